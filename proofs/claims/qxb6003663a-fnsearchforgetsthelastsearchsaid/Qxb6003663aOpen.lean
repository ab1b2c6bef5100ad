/-
  What the row's reading of an argument says of the lists that lie there.
-/
import Derived.Test.Qxb6003663aRows
import Derived.Test.Qxb6003663aGuard
import Derived.WalkKit
import Derived.ProofKit
import Derived.OpenShut
import Derived.ShutString
import Derived.ChangeOld
import Derived.Below
import Derived.Deep.Slices
import Derived.Lib.SmallJoins
namespace Go.Proofs.Qxb6003663a
open Go.ChangeShapes Go.WideShapes Go.ChangeAt Go.RowKit

theorem Try.own : ownKnob Try.prog.godebug = none := by kernel_rfl
theorem Try.laidOut : laidOutB Try.prog = true := by kernel_rfl
theorem Try.cells21 : Try.prog.cellsOf 21 = 1 := by kernel_rfl
theorem Try.cells33 : Try.prog.cellsOf 33 = 1 := by kernel_rfl

section
variable {w : World} {base : Nat}
theorem mapM_get {α β : Type} {f : α → Option β} : ∀ {l : List α} {r : List β}, l.mapM f = some r → ∀ i (hi : i < l.length), ∃ b, f l[i] = some b ∧ r[i]? = some b
  | [], r, h, i, hi => by simp at hi
  | a :: l, r, h, i, hi => by
    rw [List.mapM_cons] at h
    cases hfa : f a with
    | none => simp [hfa] at h
    | some b =>
      cases hl : l.mapM f with
      | none => simp [hfa, hl] at h
      | some bs =>
        simp [hfa, hl] at h
        subst h
        cases i with
        | zero => exact ⟨b, hfa, rfl⟩
        | succ i => obtain ⟨b', h1, h2⟩ := mapM_get hl i (by simpa using hi); exact ⟨b', h1, by simpa using h2⟩

theorem mapM_len {α β : Type} {f : α → Option β} : ∀ {l : List α} {r : List β}, l.mapM f = some r → r.length = l.length
  | [], r, h => by rw [List.mapM_nil] at h; simp at h; subst h; rfl
  | a :: l, r, h => by
    rw [List.mapM_cons] at h
    cases hfa : f a with
    | none => simp [hfa] at h
    | some b =>
      cases hl : l.mapM f with
      | none => simp [hfa, hl] at h
      | some bs =>
        simp [hfa, hl] at h
        subst h
        simp [mapM_len hl]

/-- The cells that 'cells?' gives lie there. -/
theorem at_of_cells {a : Addr} {n : Nat} {cs : List Value} (h : w.cells? base a n = some cs) (hn : 0 < n) : a.spot = none ∧ At w a.block a.off cs := by
  unfold World.cells? at h
  split at h
  · have hlen : cs.length = n := by
      have := mapM_len h
      simpa using this
    have key : ∀ j (hj : j < n), w.cell? (a.add j) = cs[j]? := by
      intro j hj
      obtain ⟨b, h1, h2⟩ := mapM_get h j (by simpa using hj)
      rw [h2]
      simpa using h1
    have hs : a.spot = none := by
      have := key 0 hn
      have h0 : cs[0]? = some (cs[0]'(by omega)) := List.getElem?_eq_getElem _
      rw [h0] at this
      have := World.cell?_spot this
      simpa [Addr.add] using this
    refine ⟨hs, fun j v hv => ?_⟩
    have hj : j < n := by rw [← hlen]; exact (List.getElem?_eq_some_iff.1 hv).1
    have := key j hj
    rw [hv] at this
    obtain ⟨b, o, s⟩ := a
    subst hs
    rwa [Addr.add_lit] at this
  · cases h
end

section
variable {H : Type} {enc : TypeId × Value → H} {P : Program} {w : World} {base : Nat} {spare : Nat → Bool} {held : Bool}
/-- A slice that came in: its elements, where its elements' cells read. -/
theorem open_row {α : Type} [Inhabited α] {f : α → List Value} {k : Nat} (R : α → Prop) (hk : 0 < k) (t e : TypeId) (ht : P.underlying t = some (.slice e)) (hc : P.cellsOf e = k)
    (read : ∀ fuel cs x, DataW.trod enc P w base spare held fuel e cs = some x → ∃ a, cs = f a ∧ R a)
    {fuel : Nat} {cs : List Value} {x : DataW H × List MemPlace} (hf : DataW.trod enc P w base spare held fuel t cs = some x) : ∃ v b es, cs = [v] ∧ Sl f k w b v es ∧ es.length ≤ maxLen ∧ ∀ x ∈ es, R x := by
  rcases Go.Deep.open_slice ht hf with ⟨hcs, _⟩ | ⟨a, len, cap, m, n, D, Pl, hcs, _, hl, hm, hmm, _, hall⟩
  · exact ⟨_, 0, [], hcs, ⟨none, 0, rfl, fun i hi => by simp at hi⟩, by simp, fun x hx => by cases hx⟩
  · have hlm : len ≤ m := by rw [hmm]; split <;> omega
    have hex : ∀ i, i < len → ∃ e : α, (a.spot = none ∧ At w a.block (a.off + i * k) (f e)) ∧ R e := by
      intro i hi
      obtain ⟨cs', h1, h2⟩ := hall i (by omega)
      obtain ⟨e, rfl, hR⟩ := read _ _ _ h2
      rw [hc] at h1
      have := at_of_cells h1 (by omega)
      refine ⟨e, ?_, hR⟩
      obtain ⟨b, o, s⟩ := a
      unfold Addr.add at this
      split at this
      · rename_i h0
        have hi0 : i = 0 := by
          rcases Nat.eq_zero_or_pos i with h | h
          · exact h
          · have := Nat.mul_pos h hk
            omega
        subst hi0
        simpa using ‹_ ∧ _›
      · have hs : s = none := by
          obtain ⟨cs0, g1, _⟩ := hall 0 (by omega)
          rw [hc] at g1
          have := (at_of_cells g1 (by omega)).1
          simpa [Addr.add] using this
        exact ⟨hs, this.2⟩
    obtain ⟨F, hF⟩ := Go.Deep.choose_lt hex
    refine ⟨_, a.block, (List.range len).map F, hcs, ⟨some a, cap, by simp, fun i hi => ⟨a.off, ?_, ?_⟩⟩, by simp; exact Nat.le_trans hl hm, ?_⟩
    · have := (hF i (by simpa using hi)).1.1
      obtain ⟨b, o, s⟩ := a
      subst this; rfl
    · have := (hF i (by simpa using hi)).1.2
      simpa using this
    · intro x hx
      obtain ⟨i, hi, rfl⟩ := List.mem_map.1 hx
      exact (hF i (by simpa using hi)).2
end

def I32 (x : Int) : Prop := -2147483648 ≤ x ∧ x ≤ 2147483647
theorem i32_of_wf {n : Int} (h : (Lit.int .i32 n).wf = true) : I32 n := by
  have h1 : IntKind.min .i32 = -2147483648 := by decide
  have h2 : IntKind.max .i32 = 2147483647 := by decide
  simp only [Lit.wf, Bool.and_eq_true, decide_eq_true_eq, h1, h2] at h
  exact h
instance : Inhabited Value := ⟨.slice none 0 0⟩
section
variable {H : Type} {enc : TypeId × Value → H} {w : World} {base : Nat} {spare : Nat → Bool} {held : Bool}
theorem open_list {fuel : Nat} {cs : List Value} {x : DataW H × List MemPlace} (h : DataW.trod enc Try.prog w base spare held fuel 33 cs = some x) : ∃ v b es, cs = [v] ∧ Sl ic 1 w b v es ∧ es.length ≤ maxLen ∧ ∀ x ∈ es, I32 x :=
  open_row I32 (by omega) 33 21 Try.underlying33 Try.cells21 (fun _ _ _ h => by
    obtain ⟨n, hn, _, hw⟩ := DataW.trod_int Try.underlying21 h
    exact ⟨n, hn, i32_of_wf hw⟩) h

theorem open_lists {a0 : Option Addr} {l0 c0 : Nat} {d : DataW H} {p : List MemPlace} (h : DataW.Trod enc Try.prog w base spare held 22 (.slice a0 l0 c0) d p) :
    ∃ es, Gr (fun _ => True) w (.slice a0 l0 c0) es ∧ es.length ≤ maxLen ∧ (∀ l ∈ es, l.length ≤ maxLen) ∧ Wide es := by
  obtain ⟨fuel, hf⟩ := h
  obtain ⟨v, b, vs, hv, hs, hn, hR⟩ := open_row (f := vc) (k := 1) (fun v => ∃ b es, Sl ic 1 w b v es ∧ es.length ≤ maxLen ∧ ∀ x ∈ es, I32 x) (by omega) 22 33 Try.underlying22 Try.cells33 (fun _ _ _ h => by
    obtain ⟨v, b, es, h1, h2⟩ := open_list h
    exact ⟨v, h1, b, es, h2⟩) hf
  obtain rfl : Value.slice a0 l0 c0 = v := by simpa [Value.cells] using hv
  have hex : ∀ i, i < vs.length → ∃ es : List Int, ∀ (h : i < vs.length), ∃ b, Sl ic 1 w b vs[i] es ∧ es.length ≤ maxLen ∧ ∀ x ∈ es, I32 x := by
    intro i hi
    obtain ⟨b, es, h⟩ := hR vs[i] (List.getElem_mem hi)
    exact ⟨es, fun _ => ⟨b, h⟩⟩
  obtain ⟨F, hF⟩ := Go.Deep.choose_lt hex
  refine ⟨(List.range vs.length).map F, ⟨b, vs, fun _ => trivial, hs, by simp, fun i h1 h2 => ?_⟩, by simpa using hn, ?_, ?_⟩
  · obtain ⟨b, h3, _⟩ := hF i h2 h2
    exact ⟨b, fun _ => trivial, by simpa using h3⟩
  · intro l hl
    obtain ⟨i, hi, rfl⟩ := List.mem_map.1 hl
    have hi' : i < vs.length := by simpa using hi
    obtain ⟨b, _, h4, _⟩ := hF i hi' hi'
    exact h4
  · intro l hl
    obtain ⟨i, hi, rfl⟩ := List.mem_map.1 hl
    have hi' : i < vs.length := by simpa using hi
    obtain ⟨b, _, _, h5⟩ := hF i hi' hi'
    exact h5
end
end Go.Proofs.Qxb6003663a
