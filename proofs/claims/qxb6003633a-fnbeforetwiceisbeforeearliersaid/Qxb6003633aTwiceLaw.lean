/-
  The walk of FnBeforeTwiceIsBeforeEarlier.
-/
import Derived.Test.Qxb6003633aEqRw
import Derived.Deep.DeepCutAuto
namespace Go.Proofs.Qxb6003633a
open Go.RowKit

set_option maxHeartbeats 2000000 in
set_option maxRecDepth 100000 in
theorem twiceLaw_calls (v : Value) (b : Nat) (rs : List Rw) (x y : Int) (w : World) (hs : Sl Rw.cells 4 w b v rs) (hn : rs.length ≤ maxLen) :
    Calls Try.prog 6 #[v, .int .i64 x, .int .i64 y] w fun r w' => r = .returned (.bool true) ∧ Kp No w w' := by
  have hs0 := hs
  obtain ⟨a, c, rfl, hat⟩ := hs
  clear hat
  have hbytes := fun W => bytes6_calls a rs.length c x y W hn
  unfold maxLen at hn
  by_cases h1 : rs.length ≤ 32768
  · have hd1 : decide ((32768 : Int) < (rs.length : Int)) = false := decide_eq_false (by omega)
    go_enter Try.func6, Try.ntmps6
    go_wp2_with fail
    refine (hbytes _).mono ?_
    rintro r w1 ⟨rb, rfl, hk1⟩
    cases rb
    · go_wp2_with fail
      go_ret
      exact ⟨rfl, hk1⟩
    go_wp2_with fail
    refine (clone_calls _ b rs _ (hs0.kp hk1 (no_not _)) (by omega)).mono ?_
    rintro r w2 ⟨v3, b3, rfl, hs3, hb3, hk2⟩
    have hk02 := hk1.then hk2
    have hs30 := hs3
    obtain ⟨a3, c3, rfl, hat3⟩ := hs3
    clear hat3 hk1 hk2 hs0 hbytes
    obtain ⟨z, hz⟩ : ∃ z, z = if y < x then y else x := ⟨_, rfl⟩
    have HZ : Hid (z = if y < x then y else x) := hz
    clear hz
    go_upto_if 26 with fail
    go_cut [7] (fun t w' => t = .int .i64 z ∧ Kp No w2 w')
    case first =>
      by_cases hyx : y < x
      · go_wp2_with fail
        go_meet
        case rel =>
          have hz := HZ.out
          rw [if_pos (by omega)] at hz
          rw [hz]
          exact ⟨rfl, Kp.refl _ _⟩
      · go_wp2_with fail
        go_meet
        case rel =>
          have hz := HZ.out
          rw [if_neg (by omega)] at hz
          rw [hz]
          exact ⟨rfl, Kp.refl _ _⟩
    case rest =>
      obtain ⟨rfl, hkc⟩ := hcut
      have hs31 := hs30.kp hkc (no_not _)
      have hk03 := hk02.then hkc
      clear hs30 hk02 hkc
      go_wp2_with fail
      refine (work_calls _ b3 rs _ hs31 (by omega)).mono ?_
      rintro r w4 ⟨g, rfl, ho4, hg4, hk4⟩
      have hsg := ho4.sl rw_len
      have hs32 := hs31.kp hk4 (no_not _)
      have hk04 := hk03.then hk4
      clear ho4 hs31 hk4 hk03
      go_wp2_with fail
      refine (before_calls _ g rs x _ hsg (by omega)).mono ?_
      rintro r w5 ⟨v5, b5, rfl, h5⟩
      have hl5 := bef_len x rs
      have hs5 := h5.sl
      have hs50 := hs5
      obtain ⟨a5, c5, rfl, hat5⟩ := hs5
      clear hat5
      go_wp2_with fail
      refine (before_calls _ b5 (bef x rs) y _ hs50 (by omega)).mono ?_
      rintro r w6 ⟨v6, b6, rfl, h6⟩
      have hs6 := h6.sl
      have hk06 := (hk04.then h5.kp).then h6.kp
      have hsg6 := (hsg.kp h5.kp (no_not _)).kp h6.kp (no_not _)
      have hs36 := (hs32.kp h5.kp (no_not _)).kp h6.kp (no_not _)
      have ez : bef y (bef x rs) = bef z rs := by rw [bef_bef, ← HZ.out]
      rw [ez] at hs6
      clear ez h5 h6 hs50 hsg hs32 hk04 hl5
      have hs60 := hs6
      obtain ⟨a6, c6, rfl, hat6⟩ := hs6
      clear hat6
      go_wp2_with fail
      refine (before_calls _ g rs z _ hsg6 (by omega)).mono ?_
      rintro r w7 ⟨v7, b7, rfl, h7⟩
      have hs7 := h7.sl
      have hk07 := hk06.then h7.kp
      have hs67 := hs60.kp h7.kp (no_not _)
      have hs37 := hs36.kp h7.kp (no_not _)
      clear h7 hk06 hs60 hs36 hsg6
      have hs70 := hs7
      obtain ⟨a7, c7, rfl, hat7⟩ := hs7
      clear hat7
      go_wp2_with fail
      refine (count_calls _ b3 rs z _ hs37 (by omega)).mono ?_
      rintro r w8 ⟨rfl, hk8⟩
      have hk08 := hk07.then hk8
      have hs68 := hs67.kp hk8 (no_not _)
      have hs78 := hs70.kp hk8 (no_not _)
      have hlz := bef_len z rs
      clear hk07 hs67 hs70 hs37 hk8 HZ
      have hne : (((bef z rs).length : Int) != ((bef z rs).length : Int)) = false := by simp
      generalize bef z rs = zs at *
      go_wp2_with fail
      go_loopw [12] (fun t w' => ∃ i : Nat, i ≤ zs.length ∧ t = .int .i64 i ∧ Kp No w8 w') (fun t _ => zs.length - (intOf t).toNat)
      case atStart => exact ⟨0, by omega, rfl, Kp.refl _ _⟩
      case round =>
        obtain ⟨i, hi, rfl, hk9⟩ := hrel
        by_cases hlt : i < zs.length
        · obtain ⟨o6, ha6, hat6⟩ := hs68.get hlt
          subst ha6
          obtain ⟨p0, p1, p2, p3⟩ := rw_at (hat6.kp hk9 (no_not _))
          obtain ⟨o7, ha7, hat7⟩ := hs78.get hlt
          subst ha7
          obtain ⟨q0, q1, q2, q3⟩ := rw_at (hat7.kp hk9 (no_not _))
          have hq := run_neq_rw zs[i] zs[i]
          rw [(eqRw_iff _ _).2 rfl] at hq
          unfold Rw.val at hq
          clear hat6 hat7 hs68 hs78
          go_wp2_with fail
          refine wp_region_text [2, 3, 33] Try.mixed (by kernel_rfl) ?_
          go_wp2_with fail
          refine ⟨by kernel_rfl, ?_⟩
          go_wp2_with fail
          go_roundw
          case rel => exact ⟨i + 1, by omega, by go_num, hk9.drew⟩
          case measure => simp [intOf]; omega
        · go_wp2_with fail
          go_ret
          exact ⟨rfl, hk08.then hk9⟩
  · have hd1 : decide ((32768 : Int) < (rs.length : Int)) = true := decide_eq_true (by omega)
    go_enter Try.func6, Try.ntmps6
    go_wp2_with fail
    refine (hbytes _).mono ?_
    rintro r w1 ⟨rb, rfl, hk1⟩
    cases rb
    · go_wp2_with fail
      go_ret
      exact ⟨rfl, hk1⟩
    go_wp2_with fail
    go_ret
    exact ⟨rfl, hk1⟩
end Go.Proofs.Qxb6003633a
