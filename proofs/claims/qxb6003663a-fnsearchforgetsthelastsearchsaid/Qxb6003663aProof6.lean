/-
  Rows.FnSearchForgetsTheLastSearchSaid: the walked law, lifted to the row.
-/
import Derived.Test.Qxb6003663aOpen
import Derived.Test.Qxb6003663aLaw6
namespace Go.Proofs.Qxb6003663a
open Go.ChangeShapes Go.WideShapes Go.ChangeAt Go.RowKit

set_option maxRecDepth 100000 in
theorem forgets_lifted (os : Os) (started : os.Started) (H : Type) (enc : TypeId × Value → H) :
    ReturnsInHanded {} Try.checked os 6 .any (Rows.fnSearchForgetsTheLastSearchSpec.pre6 enc Try.prog Try.f6 Rows.fnSearchForgetsTheLastSearchRow.domain false) (Rows.fnSearchForgetsTheLastSearchSpec.post enc Try.prog Try.f6 false true false false) := by
  refine returnsInHanded_of_change (C := Try.checked) Try.own started (by kernel_rfl) Try.func6
    (ChangeSpec.witness6 (enc := enc) (C := Try.checked) false ⟨#[], #[.slice none 0 0, .int .i32 0, .bool false, .int .i32 0, .bool false], []⟩ 8 (by kernel_rfl) (by kernel_rfl) (by kernel_rfl) (by kernel_rfl)) ?_
  intro W base args ds gs before hval0 hW hcnd _
  have hval : ∀ (j : Nat) t v, Try.f6.params[j]? = some t → args[j]? = some v → Value.okWide Try.prog W .any base t v := hval0
  have hW' := hW
  obtain ⟨p, q, hA0, hV, rfl, hfz, hnd⟩ := hW
  have hA : DataW.TrodAll enc Try.prog W 0 (fun _ => true) true Try.f6.params.toList args.toList ds p := hA0
  rw [Try.params6] at hA hval
  obtain ⟨v0, vs0, d0, ds0, p0, q0, hargs, rfl, rfl, h0, r0⟩ := trodAll_cons hA
  obtain ⟨v1, vs1, d1, ds1, p1, q1, rfl, rfl, rfl, h1, r1⟩ := trodAll_cons r0
  obtain ⟨v2, vs2, d2, ds2, p2, q2, rfl, rfl, rfl, h2, r2⟩ := trodAll_cons r1
  obtain ⟨v3, vs3, d3, ds3, p3, q3, rfl, rfl, rfl, h3, r3⟩ := trodAll_cons r2
  obtain ⟨v4, vs4, d4, ds4, p4, q4, rfl, rfl, rfl, h4, r4⟩ := trodAll_cons r3
  obtain ⟨rfl, rfl, rfl⟩ := trodAll_nil r4
  obtain rfl : args = #[v0, v1, v2, v3, v4] := by cases args; simp_all
  obtain ⟨rfl, rfl⟩ := trodVars_none hV
  obtain ⟨a0, len0, cap0, rfl⟩ := okWide_slice Try.underlying22 (hval 0 22 v0 rfl rfl)
  obtain ⟨x1, rfl⟩ := okWide_int Try.underlying21 (hval 1 21 v1 rfl rfl)
  obtain ⟨b2, rfl⟩ := okWide_bool Try.underlying4 (hval 2 4 v2 rfl rfl)
  obtain ⟨x3, rfl⟩ := okWide_int Try.underlying21 (hval 3 21 v3 rfl rfl)
  obtain ⟨b4, rfl⟩ := okWide_bool Try.underlying4 (hval 4 4 v4 rfl rfl)
  have k0 := h0
  have lt0 : ∀ x ∈ p0, x.block < W.heap.size := by obtain ⟨m, hm⟩ := k0; exact DataW.trod_lt m _ _ _ hm
  have k1 := h1
  have lt1 : ∀ x ∈ p1, x.block < W.heap.size := by obtain ⟨m, hm⟩ := k1; exact DataW.trod_lt m _ _ _ hm
  have k2 := h2
  have lt2 : ∀ x ∈ p2, x.block < W.heap.size := by obtain ⟨m, hm⟩ := k2; exact DataW.trod_lt m _ _ _ hm
  have k3 := h3
  have lt3 : ∀ x ∈ p3, x.block < W.heap.size := by obtain ⟨m, hm⟩ := k3; exact DataW.trod_lt m _ _ _ hm
  have k4 := h4
  have lt4 : ∀ x ∈ p4, x.block < W.heap.size := by obtain ⟨m, hm⟩ := k4; exact DataW.trod_lt m _ _ _ hm
  obtain ⟨es, hg, hm, hl, hw⟩ := open_lists h0
  have hi1 : I32 x1 := by
    obtain ⟨fuel, hf⟩ := h1
    obtain ⟨n, hn, _, hwf⟩ := DataW.trod_int Try.underlying21 hf
    obtain rfl : x1 = n := by simpa [Value.cells] using hn
    exact i32_of_wf hwf
  have hi3 : I32 x3 := by
    obtain ⟨fuel, hf⟩ := h3
    obtain ⟨n, hn, _, hwf⟩ := DataW.trod_int Try.underlying21 hf
    obtain rfl : x3 = n := by simpa [Value.cells] using hn
    exact i32_of_wf hwf
  clear hA0 hval0
  refine (law6_calls _ _ es x1 x3 b2 b4 W hg hm hl hw hi1.1 hi1.2 hi3.1 hi3.2).mono fun r W' ⟨he, hk⟩ => ?_
  subst he
  have bel := hk.below
  exact ⟨_, rfl, _, _, _, [], _, [], hW', trodAll_mk1 (shut_bool Try.underlying4 _), (trodAll_cons_mk (Below.trod Try.laidOut (by kernel_rfl) (of_decide_eq_true (by kernel_rfl)) k0 bel lt0) (trodAll_cons_mk (Below.trod Try.laidOut (by kernel_rfl) (of_decide_eq_true (by kernel_rfl)) k1 bel lt1) (trodAll_cons_mk (Below.trod Try.laidOut (by kernel_rfl) (of_decide_eq_true (by kernel_rfl)) k2 bel lt2)
    (trodAll_cons_mk (Below.trod Try.laidOut (by kernel_rfl) (of_decide_eq_true (by kernel_rfl)) k3 bel lt3) (trodAll_cons_mk (Below.trod Try.laidOut (by kernel_rfl) (of_decide_eq_true (by kernel_rfl)) k4 bel lt4) trodAll_mk0))))), rfl, bel.frame _, fun h => by cases h⟩

theorem forgets_over : Rows.fnSearchForgetsTheLastSearchRow.holds Try.pinned (OpenSpec.ofChange Rows.fnSearchForgetsTheLastSearchSpec) :=
  OpenClaim.holds_of_wide 6 Try.f6 rfl rfl rfl rfl rfl rfl rfl ⟨rfl, rfl, rfl, rfl, rfl⟩ rfl rfl rfl rfl rfl (by kernel_rfl) Try.func6 (by kernel_rfl)
    (of_decide_eq_true (by kernel_rfl)) (by unfold Func.isWrapper; first | (rw [if_pos (by decide +kernel)]; kernel_rfl) | (rw [if_neg (by decide +kernel)]; exact ⟨rfl, rfl⟩))
    (fun os started H enc _ => forgets_lifted os started H enc)

theorem searchForgets_proved : Rows.FnSearchForgetsTheLastSearchSaid := forgets_over
end Go.Proofs.Qxb6003663a
