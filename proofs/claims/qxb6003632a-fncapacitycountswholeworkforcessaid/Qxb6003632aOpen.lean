/-
  What the row's reading of an argument says of the events that lie there.
-/
import Derived.Test.Qxb6003632aRows
import Derived.Test.Qxb6003632aGen3
import Derived.Test.Qxb6003632aBase
import Derived.WalkKit
import Derived.ProofKit
import Derived.OpenShut
import Derived.ShutString
import Derived.ChangeOld
import Derived.Below
import Derived.Deep.Slices
import Derived.Lib.SmallJoins
namespace Go.Proofs.Qxb6003632a
open Go.ChangeShapes Go.WideShapes Go.ChangeAt Go.RowKit

theorem Try.own : ownKnob Try.prog.godebug = none := by kernel_rfl
theorem Try.laidOut : laidOutB Try.prog = true := by kernel_rfl
theorem Try.cells40 : Try.prog.cellsOf 40 = 7 := by kernel_rfl
theorem Try.cells2 : Try.prog.cellsOf 2 = 1 := by kernel_rfl
theorem Try.cells38 : Try.prog.cellsOf 38 = 1 := by kernel_rfl
theorem Try.cells21 : Try.prog.cellsOf 21 = 1 := by kernel_rfl
theorem Try.cells5 : Try.prog.cellsOf 5 = 1 := by kernel_rfl
theorem Try.cells3 : Try.prog.cellsOf 3 = 1 := by kernel_rfl

section
variable {H : Type} {enc : TypeId × Value → H} {w : World} {base : Nat} {spare : Nat → Bool} {held : Bool}

/-- A struct of type Ev reads: its cells are an event's. -/
theorem ev_of_trod {fuel : Nat} {cs : List Value} {x : DataW H × List MemPlace} (h : DataW.trod enc Try.prog w base spare held fuel 40 cs = some x) : ∃ e : Ev, cs = e.cells := by
  obtain ⟨xs, n, _, _, hl, hxl, hf⟩ := DataW.trod_struct Try.underlying40 h
  rw [Try.cells40] at hl
  have hxl7 : xs.length = 7 := hxl
  have one : ∀ (i : Nat) (t : TypeId) (k : IntKind) (hk : Try.prog.underlying t = some (.int k)) (hc : Try.prog.cellsOf t = 1) (hi : i < 7),
      DataW.trod enc Try.prog w base spare held n t ((cs.drop i).take (Try.prog.cellsOf t)) = xs[i]? → ∃ z, cs[i]? = some (.int k z) := by
    intro i t k hk hc hi ht
    have hxi : xs[i]? = some (xs[i]'(by omega)) := List.getElem?_eq_getElem _
    rw [hxi] at ht
    obtain ⟨z, hz, _, _⟩ := DataW.trod_int hk ht
    rw [hc] at hz
    refine ⟨z, ?_⟩
    have := congrArg (fun l => l[0]?) hz
    simp at this
    exact this
  obtain ⟨z0, h0⟩ := one 0 2 .i64 Try.underlying2 Try.cells2 (by omega) (hf 0 _ rfl)
  obtain ⟨z1, h1⟩ := one 1 38 .u64 Try.underlying38 Try.cells38 (by omega) (hf 1 _ rfl)
  obtain ⟨z2, h2⟩ := one 2 2 .i64 Try.underlying2 Try.cells2 (by omega) (hf 2 _ rfl)
  obtain ⟨z3, h3⟩ := one 3 21 .i32 Try.underlying21 Try.cells21 (by omega) (hf 3 _ rfl)
  obtain ⟨z4, h4⟩ := one 4 21 .i32 Try.underlying21 Try.cells21 (by omega) (hf 4 _ rfl)
  obtain ⟨z5, h5⟩ := one 5 5 .u8 Try.underlying5 Try.cells5 (by omega) (hf 5 _ rfl)
  obtain ⟨z6, h6⟩ := one 6 3 .i64 Try.underlying3 Try.cells3 (by omega) (hf 6 _ rfl)
  refine ⟨⟨z0, z1, z2, z3, z4, z5, z6⟩, ?_⟩
  match cs, hl with
  | [c0, c1, c2, c3, c4, c5, c6], _ =>
    simp at h0 h1 h2 h3 h4 h5 h6
    subst h0 h1 h2 h3 h4 h5 h6
    rfl

theorem mapM_get {α β : Type} {f : α → Option β} : ∀ {l : List α} {r : List β}, l.mapM f = some r → ∀ i (hi : i < l.length), ∃ b, f l[i] = some b ∧ r[i]? = some b
  | [], r, h, i, hi => by simp at hi
  | a :: l, r, h, i, hi => by
    rw [List.mapM_cons] at h
    cases hfa : f a with
    | none => simp [hfa] at h
    | some b =>
      cases hl : l.mapM f with
      | none => simp [hfa, hl] at h
      | some bs =>
        simp [hfa, hl] at h
        subst h
        cases i with
        | zero => exact ⟨b, hfa, rfl⟩
        | succ i => obtain ⟨b', h1, h2⟩ := mapM_get hl i (by simpa using hi); exact ⟨b', h1, by simpa using h2⟩

theorem mapM_len {α β : Type} {f : α → Option β} : ∀ {l : List α} {r : List β}, l.mapM f = some r → r.length = l.length
  | [], r, h => by rw [List.mapM_nil] at h; simp at h; subst h; rfl
  | a :: l, r, h => by
    rw [List.mapM_cons] at h
    cases hfa : f a with
    | none => simp [hfa] at h
    | some b =>
      cases hl : l.mapM f with
      | none => simp [hfa, hl] at h
      | some bs =>
        simp [hfa, hl] at h
        subst h
        simp [mapM_len hl]

/-- The cells that 'cells?' gives lie there. -/
theorem at_of_cells {a : Addr} {n : Nat} {cs : List Value} (h : w.cells? base a n = some cs) (hn : 0 < n) : a.spot = none ∧ At w a.block a.off cs := by
  unfold World.cells? at h
  split at h
  · have hlen : cs.length = n := by
      have := mapM_len h
      simpa using this
    have key : ∀ j (hj : j < n), w.cell? (a.add j) = cs[j]? := by
      intro j hj
      obtain ⟨b, h1, h2⟩ := mapM_get h j (by simpa using hj)
      rw [h2]
      simpa using h1
    have hs : a.spot = none := by
      have := key 0 hn
      have h0 : cs[0]? = some (cs[0]'(by omega)) := List.getElem?_eq_getElem _
      rw [h0] at this
      have := World.cell?_spot this
      simpa [Addr.add] using this
    refine ⟨hs, fun j v hv => ?_⟩
    have hj : j < n := by rw [← hlen]; exact (List.getElem?_eq_some_iff.1 hv).1
    have := key j hj
    rw [hv] at this
    obtain ⟨b, o, s⟩ := a
    subst hs
    rwa [Addr.add_lit] at this
  · cases h

/-- A slice of events that came in. -/
theorem open_evs {a0 : Option Addr} {l0 c0 : Nat} {d : DataW H} {p : List MemPlace} (h : DataW.Trod enc Try.prog w base spare held 37 (.slice a0 l0 c0) d p) : ∃ b es, Sl Ev.cells 7 w b (.slice a0 l0 c0) es ∧ es.length ≤ maxLen := by
  obtain ⟨fuel, hf⟩ := h
  rcases Go.Deep.open_slice Try.underlying37 hf with ⟨hcs, _⟩ | ⟨a, len, cap, m, n, D, Pl, hcs, _, hl, hm, hmm, _, hall⟩
  · simp [Value.cells] at hcs
    obtain ⟨rfl, rfl, rfl⟩ := hcs
    exact ⟨0, [], ⟨none, 0, rfl, fun i hi => by simp at hi⟩, by simp⟩
  · simp [Value.cells] at hcs
    obtain ⟨rfl, rfl, rfl⟩ := hcs
    have hlm : l0 ≤ m := by rw [hmm]; split <;> omega
    have hex : ∀ i, i < l0 → ∃ e : Ev, a.spot = none ∧ At w a.block (a.off + i * 7) e.cells := by
      intro i hi
      obtain ⟨cs', h1, h2⟩ := hall i (by omega)
      obtain ⟨e, rfl⟩ := ev_of_trod h2
      rw [Try.cells40] at h1
      have := at_of_cells h1 (by omega)
      refine ⟨e, ?_⟩
      obtain ⟨b, o, s⟩ := a
      unfold Addr.add at this
      split at this
      · rename_i h0
        have : i = 0 := by omega
        subst this
        simpa using ‹_ ∧ _›
      · have hs : s = none := by
          -- the first element's address is the slice's own
          obtain ⟨cs0, g1, _⟩ := hall 0 (by omega)
          rw [Try.cells40] at g1
          have := (at_of_cells g1 (by omega)).1
          simpa [Addr.add] using this
        exact ⟨hs, this.2⟩
    have hInh : Inhabited Ev := ⟨zeroEv⟩
    obtain ⟨F, hF⟩ := Go.Deep.choose_lt hex
    refine ⟨a.block, (List.range l0).map F, ⟨some a, c0, by simp, fun i hi => ⟨a.off, ?_, ?_⟩⟩, by simp; exact Nat.le_trans hl hm⟩
    · have := (hF i (by simpa using hi)).1
      obtain ⟨b, o, s⟩ := a
      subst this; rfl
    · have := (hF i (by simpa using hi)).2
      simpa using this

/-- An event by value. -/
theorem open_ev {r : Reach} {b0 : Nat} {v : Value} {d : DataW H} {p : List MemPlace} (hv : Value.okWide Try.prog w r b0 40 v) (h : DataW.Trod enc Try.prog w base spare held 40 v d p) : ∃ e : Ev, v = e.val := by
  obtain ⟨cs, rfl, _⟩ := okWide_struct Try.underlying40 hv
  obtain ⟨fuel, hf⟩ := h
  obtain ⟨e, he⟩ := ev_of_trod hf
  refine ⟨e, ?_⟩
  have : cs.toList = e.cells := he
  show Value.agg cs = Value.agg e.cells.toArray
  rw [← this]
end
end Go.Proofs.Qxb6003632a
