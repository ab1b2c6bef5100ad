/-
  Rows.FnCapacityCountsWholeWorkforcesSaid: the walked law, lifted to the row.
-/
import Derived.Test.Qxb6003632aOpen
import Derived.Test.Qxb6003632aCapLaw
namespace Go.Proofs.Qxb6003632a
open Go.ChangeShapes Go.WideShapes Go.ChangeAt Go.RowKit

section
variable {H : Type} {enc : TypeId × Value → H} {P : Program} {w : World} {base : Nat} {spare : Nat → Bool} {held : Bool}
/-- A slice that came in: its elements, where its elements' cells read. -/
theorem open_row {α : Type} [Inhabited α] {f : α → List Value} {k : Nat} (hk : 0 < k) (t e : TypeId) (ht : P.underlying t = some (.slice e)) (hc : P.cellsOf e = k)
    (read : ∀ fuel cs x, DataW.trod enc P w base spare held fuel e cs = some x → ∃ a, cs = f a)
    {a0 : Option Addr} {l0 c0 : Nat} {d : DataW H} {p : List MemPlace} (h : DataW.Trod enc P w base spare held t (.slice a0 l0 c0) d p) : ∃ b es, Sl f k w b (.slice a0 l0 c0) es ∧ es.length ≤ maxLen := by
  obtain ⟨fuel, hf⟩ := h
  rcases Go.Deep.open_slice ht hf with ⟨hcs, _⟩ | ⟨a, len, cap, m, n, D, Pl, hcs, _, hl, hm, hmm, _, hall⟩
  · simp [Value.cells] at hcs
    obtain ⟨rfl, rfl, rfl⟩ := hcs
    exact ⟨0, [], ⟨none, 0, rfl, fun i hi => by simp at hi⟩, by simp⟩
  · simp [Value.cells] at hcs
    obtain ⟨rfl, rfl, rfl⟩ := hcs
    have hlm : l0 ≤ m := by rw [hmm]; split <;> omega
    have hex : ∀ i, i < l0 → ∃ e : α, a.spot = none ∧ At w a.block (a.off + i * k) (f e) := by
      intro i hi
      obtain ⟨cs', h1, h2⟩ := hall i (by omega)
      obtain ⟨e, rfl⟩ := read _ _ _ h2
      rw [hc] at h1
      have := at_of_cells h1 (by omega)
      refine ⟨e, ?_⟩
      obtain ⟨b, o, s⟩ := a
      unfold Addr.add at this
      split at this
      · rename_i h0
        have hi0 : i = 0 := by
          rcases Nat.eq_zero_or_pos i with h | h
          · exact h
          · have := Nat.mul_pos h hk
            omega
        subst hi0
        simpa using ‹_ ∧ _›
      · have hs : s = none := by
          obtain ⟨cs0, g1, _⟩ := hall 0 (by omega)
          rw [hc] at g1
          have := (at_of_cells g1 (by omega)).1
          simpa [Addr.add] using this
        exact ⟨hs, this.2⟩
    obtain ⟨F, hF⟩ := Go.Deep.choose_lt hex
    refine ⟨a.block, (List.range l0).map F, ⟨some a, c0, by simp, fun i hi => ⟨a.off, ?_, ?_⟩⟩, by simp; exact Nat.le_trans hl hm⟩
    · have := (hF i (by simpa using hi)).1
      obtain ⟨b, o, s⟩ := a
      subst this; rfl
    · have := (hF i (by simpa using hi)).2
      simpa using this
end

theorem Try.cells35 : Try.prog.cellsOf 35 = 1 := by kernel_rfl
theorem Try.cells27 : Try.prog.cellsOf 27 = 4 := by kernel_rfl
theorem Try.cells9 : Try.prog.cellsOf 9 = 1 := by kernel_rfl
instance : Inhabited Ct := ⟨zeroCt⟩

section
variable {H : Type} {enc : TypeId × Value → H} {w : World} {base : Nat} {spare : Nat → Bool} {held : Bool}
/-- A float64 reads. -/
theorem float_of_trod {fuel : Nat} {cs : List Value} {x : DataW H × List MemPlace} (h : DataW.trod enc Try.prog w base spare held fuel 35 cs = some x) : ∃ b, cs = fcell b := by
  cases fuel with
  | zero => simp [DataW.trod] at h
  | succ n =>
    unfold DataW.trod at h
    rw [Try.underlying35] at h
    split at h <;> simp_all [fcell]

set_option maxRecDepth 100000 in
/-- A struct of a contractor's type reads: its cells are a contractor's. -/
theorem ct_of_trod {fuel : Nat} {cs : List Value} {x : DataW H × List MemPlace} (h : DataW.trod enc Try.prog w base spare held fuel 27 cs = some x) : ∃ e : Ct, cs = e.cells := by
  obtain ⟨xs, n, _, _, hl, hxl, hf⟩ := DataW.trod_struct Try.underlying27 h
  rw [Try.cells27] at hl
  have hxl4 : xs.length = 4 := hxl
  have one : ∀ (i : Nat) (t : TypeId) (k : IntKind) (hk : Try.prog.underlying t = some (.int k)) (hc : Try.prog.cellsOf t = 1) (hi : i < 4),
      DataW.trod enc Try.prog w base spare held n t ((cs.drop i).take (Try.prog.cellsOf t)) = xs[i]? → ∃ z, cs[i]? = some (.int k z) := by
    intro i t k hk hc hi ht
    have hxi : xs[i]? = some (xs[i]'(by omega)) := List.getElem?_eq_getElem _
    rw [hxi] at ht
    obtain ⟨z, hz, _, _⟩ := DataW.trod_int hk ht
    rw [hc] at hz
    refine ⟨z, ?_⟩
    have := congrArg (fun l => l[0]?) hz
    simp at this
    exact this
  have str : DataW.trod enc Try.prog w base spare held n 9 ((cs.drop 0).take (Try.prog.cellsOf 9)) = xs[0]? → ∃ s, cs[0]? = some (.string s) := by
    intro ht
    have hxi : xs[0]? = some (xs[0]'(by omega)) := List.getElem?_eq_getElem _
    rw [hxi] at ht
    obtain ⟨z, hz, _⟩ := DataW.trod_string Try.underlying9 ht
    rw [Try.cells9] at hz
    refine ⟨z, ?_⟩
    have := congrArg (fun l => l[0]?) hz
    simp at this
    exact this
  obtain ⟨z0, h0⟩ := str (hf 0 _ rfl)
  obtain ⟨z1, h1⟩ := one 1 2 .i64 Try.underlying2 Try.cells2 (by omega) (hf 1 _ rfl)
  obtain ⟨z2, h2⟩ := one 2 2 .i64 Try.underlying2 Try.cells2 (by omega) (hf 2 _ rfl)
  obtain ⟨z3, h3⟩ := one 3 2 .i64 Try.underlying2 Try.cells2 (by omega) (hf 3 _ rfl)
  refine ⟨⟨z0, z1, z2, z3⟩, ?_⟩
  match cs, hl, h0, h1, h2, h3 with
  | [c0, c1, c2, c3], _, h0, h1, h2, h3 =>
    have e0 : c0 = .string z0 := Option.some.inj h0
    have e1 : c1 = .int .i64 z1 := Option.some.inj h1
    have e2 : c2 = .int .i64 z2 := Option.some.inj h2
    have e3 : c3 = .int .i64 z3 := Option.some.inj h3
    rw [e0, e1, e2, e3]
    rfl
end

set_option maxRecDepth 100000 in
theorem cap_lifted (os : Os) (started : os.Started) (H : Type) (enc : TypeId × Value → H) :
    ReturnsInHanded {} Try.checked os 3 .any (Rows.fnCapacityCountsWholeWorkforcesSpec.pre6 enc Try.prog Try.f3 Rows.fnCapacityCountsWholeWorkforcesRow.domain false) (Rows.fnCapacityCountsWholeWorkforcesSpec.post enc Try.prog Try.f3 false true false false) := by
  refine returnsInHanded_of_change (C := Try.checked) Try.own started (by kernel_rfl) Try.func3
    (ChangeSpec.witness6 (enc := enc) (C := Try.checked) false ⟨#[], #[.int .i64 0, .slice none 0 0, .slice none 0 0, .slice none 0 0, .int .i64 0], []⟩ 8 (by kernel_rfl) (by kernel_rfl) (by kernel_rfl) (by kernel_rfl)) ?_
  intro W base args ds gs before hval0 hW hcnd _
  have hval : ∀ (j : Nat) t v, Try.f3.params[j]? = some t → args[j]? = some v → Value.okWide Try.prog W .any base t v := hval0
  have hW' := hW
  obtain ⟨p, q, hA0, hV, rfl, hfz, hnd⟩ := hW
  have hA : DataW.TrodAll enc Try.prog W 0 (fun _ => true) true Try.f3.params.toList args.toList ds p := hA0
  rw [Try.params3] at hA hval
  obtain ⟨v0, vs0, d0, ds0, p0, q0, hargs, rfl, rfl, h0, r0⟩ := trodAll_cons hA
  obtain ⟨v1, vs1, d1, ds1, p1, q1, rfl, rfl, rfl, h1, r1⟩ := trodAll_cons r0
  obtain ⟨v2, vs2, d2, ds2, p2, q2, rfl, rfl, rfl, h2, r2⟩ := trodAll_cons r1
  obtain ⟨v3, vs3, d3, ds3, p3, q3, rfl, rfl, rfl, h3, r3⟩ := trodAll_cons r2
  obtain ⟨v4, vs4, d4, ds4, p4, q4, rfl, rfl, rfl, h4, r4⟩ := trodAll_cons r3
  obtain ⟨rfl, rfl, rfl⟩ := trodAll_nil r4
  obtain rfl : args = #[v0, v1, v2, v3, v4] := by cases args; simp_all
  obtain ⟨rfl, rfl⟩ := trodVars_none hV
  obtain ⟨x0, rfl⟩ := okWide_int Try.underlying2 (hval 0 2 v0 rfl rfl)
  obtain ⟨a1, len1, cap1, rfl⟩ := okWide_slice Try.underlying22 (hval 1 22 v1 rfl rfl)
  obtain ⟨a2, len2, cap2, rfl⟩ := okWide_slice Try.underlying23 (hval 2 23 v2 rfl rfl)
  obtain ⟨a3, len3, cap3, rfl⟩ := okWide_slice Try.underlying24 (hval 3 24 v3 rfl rfl)
  obtain ⟨x4, rfl⟩ := okWide_int Try.underlying3 (hval 4 3 v4 rfl rfl)
  have k0 := h0
  have lt0 : ∀ x ∈ p0, x.block < W.heap.size := by obtain ⟨m, hm⟩ := k0; exact DataW.trod_lt m _ _ _ hm
  have k1 := h1
  have lt1 : ∀ x ∈ p1, x.block < W.heap.size := by obtain ⟨m, hm⟩ := k1; exact DataW.trod_lt m _ _ _ hm
  have k2 := h2
  have lt2 : ∀ x ∈ p2, x.block < W.heap.size := by obtain ⟨m, hm⟩ := k2; exact DataW.trod_lt m _ _ _ hm
  have k3 := h3
  have lt3 : ∀ x ∈ p3, x.block < W.heap.size := by obtain ⟨m, hm⟩ := k3; exact DataW.trod_lt m _ _ _ hm
  have k4 := h4
  have lt4 : ∀ x ∈ p4, x.block < W.heap.size := by obtain ⟨m, hm⟩ := k4; exact DataW.trod_lt m _ _ _ hm
  obtain ⟨b1, lv, hs1, hn1⟩ := open_row (f := fcell) (k := 1) (by omega) 22 35 Try.underlying22 Try.cells35 (fun _ _ _ h => float_of_trod h) h1
  obtain ⟨b2, subs, hs2, hn2⟩ := open_row (f := icell) (k := 1) (by omega) 23 2 Try.underlying23 Try.cells2 (fun _ _ _ h => let ⟨z, h1, _⟩ := DataW.trod_int Try.underlying2 h; ⟨z, h1⟩) h2
  obtain ⟨b3, cts, hs3, hn3⟩ := open_row (f := Ct.cells) (k := 4) (by omega) 24 27 Try.underlying24 Try.cells27 (fun _ _ _ h => ct_of_trod h) h3
  clear hA0 hval0
  refine (capLaw_calls x0 x4 _ _ _ b1 b2 b3 lv subs cts W hs1 hs2 hs3 hn1 hn2 hn3).mono fun r W' ⟨he, hk⟩ => ?_
  subst he
  have bel := hk.below
  exact ⟨_, rfl, _, _, _, [], _, [], hW', trodAll_mk1 (shut_bool Try.underlying4 _), (trodAll_cons_mk (Below.trod Try.laidOut (by kernel_rfl) (of_decide_eq_true (by kernel_rfl)) k0 bel lt0) (trodAll_cons_mk (Below.trod Try.laidOut (by kernel_rfl) (of_decide_eq_true (by kernel_rfl)) k1 bel lt1) (trodAll_cons_mk (Below.trod Try.laidOut (by kernel_rfl) (of_decide_eq_true (by kernel_rfl)) k2 bel lt2) (trodAll_cons_mk (Below.trod Try.laidOut (by kernel_rfl) (of_decide_eq_true (by kernel_rfl)) k3 bel lt3) (trodAll_cons_mk (Below.trod Try.laidOut (by kernel_rfl) (of_decide_eq_true (by kernel_rfl)) k4 bel lt4) trodAll_mk0))))), rfl, bel.frame _, fun h => by cases h⟩

theorem cap_over : Rows.fnCapacityCountsWholeWorkforcesRow.holds Try.pinned (OpenSpec.ofChange Rows.fnCapacityCountsWholeWorkforcesSpec) :=
  OpenClaim.holds_of_wide 3 Try.f3 rfl rfl rfl rfl rfl rfl rfl ⟨rfl, rfl, rfl, rfl, rfl⟩ rfl rfl rfl rfl rfl (by kernel_rfl) Try.func3 (by kernel_rfl)
    (of_decide_eq_true (by kernel_rfl)) (by unfold Func.isWrapper; first | (rw [if_pos (by decide +kernel)]; kernel_rfl) | (rw [if_neg (by decide +kernel)]; exact ⟨rfl, rfl⟩))
    (fun os started H enc _ => cap_lifted os started H enc)

theorem capacity_proved : Rows.FnCapacityCountsWholeWorkforcesSaid := cap_over
end Go.Proofs.Qxb6003632a
