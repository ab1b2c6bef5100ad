import Derived.Test.Qxb6003632aSortW
namespace Go.Proofs.Qxb6003632a
open Go.RowKit

set_option maxHeartbeats 2000000 in
set_option maxRecDepth 100000 in
theorem sameMultiset_calls (v1 v2 : Value) (b1 b2 : Nat) (es1 es2 : List Ev) (w : World) (hs1 : Sl Ev.cells 7 w b1 v1 es1) (hs2 : Sl Ev.cells 7 w b2 v2 es2) (hp : es1.Perm es2) (hn : es1.length ≤ 60000) :
    Calls Try.prog 17 #[v1, v2] w fun r w' => r = .returned (.bool true) ∧ Kp No w w' := by
  have hl := hp.length_eq
  have hs10 := hs1
  have hs20 := hs2
  obtain ⟨a1, c1, rfl, hat1⟩ := hs1
  obtain ⟨a2, c2, rfl, hat2⟩ := hs2
  clear hat1 hat2
  have HL : Hid (es1.length = es2.length) := hl
  have hle : (((es1.length : Int)) != ((es2.length : Int))) = false := by simp; omega
  clear hl
  go_enter Try.func17, Try.ntmps17
  go_wp2_with fail
  refine (sortEvs_calls _ b1 es1 _ hs10 hn).mono ?_
  rintro r w1 ⟨v1', b1', xs, rfl, hx1, hx2, hx3, hx4, hk1⟩
  go_wp2_with fail
  refine (sortEvs_calls _ b2 es2 _ (hs20.kp hk1 (no_not _)) (by have := HL.out; omega)).mono ?_
  rintro r w2 ⟨v2', b2', ys, rfl, hy1, hy2, hy3, hy4, hk2⟩
  have hxy : xs = ys := sorted_unique hx4 hy4 (hx3.trans (hp.trans hy3.symm))
  subst hxy
  have hx5 := hx1.kp hk2 (no_not _)
  have hxl : xs.length = es1.length := hx3.length_eq
  have HXL : Hid (xs.length = es1.length) := hxl
  have hk : Kp No w w2 := hk1.then hk2
  obtain ⟨a3, c3, rfl, hat3⟩ := hx5
  obtain ⟨a4, c4, rfl, hat4⟩ := hy1
  have hxb : xs.length ≤ 60000 := by omega
  clear hx1 hx2 hx3 hx4 hy2 hy3 hy4 hk1 hk2 hs10 hs20 hle hxl hn
  go_wp2_with fail
  go_loopw [7] (fun t w' => ∃ i : Nat, i ≤ xs.length ∧ t = .int .i64 i ∧ Kp No w2 w') (fun t _ => xs.length - (intOf t).toNat)
  case atStart => exact ⟨0, by omega, rfl, Kp.refl _ _⟩
  case round =>
    obtain ⟨i, hi, rfl, hk3⟩ := hrel
    by_cases hlt : i < xs.length
    · obtain ⟨o3, rfl, h3⟩ := hat3 i hlt
      obtain ⟨o4, rfl, h4⟩ := hat4 i hlt
      obtain ⟨p0, p1, p2, p3, p4, p5, p6⟩ := ev_at (h3.kp hk3 (no_not _))
      obtain ⟨q0, q1, q2, q3, q4, q5, q6⟩ := ev_at (h4.kp hk3 (no_not _))
      clear h3 h4 hat3 hat4
      go_wp2_with fail
      refine wp_region_text [2, 3, 5, 38] Try.mixed (by kernel_rfl) ?_
      go_wp2_with fail
      refine (equalEv_calls xs[i] xs[i] _).mono ?_
      rintro r w3 ⟨rfl, hk4⟩
      have he : eqEv xs[i] xs[i] = true := (eqEv_iff _ _).2 rfl
      go_wp2_with fail
      refine ⟨by kernel_rfl, ?_⟩
      go_wp2_with fail
      go_roundw
      case rel => exact ⟨i + 1, by omega, by go_num, hk3.drew.then hk4⟩
      case measure => simp [intOf]; omega
    · clear hat3 hat4
      go_wp2_with fail
      go_ret
      exact ⟨rfl, hk.then hk3⟩
end Go.Proofs.Qxb6003632a
