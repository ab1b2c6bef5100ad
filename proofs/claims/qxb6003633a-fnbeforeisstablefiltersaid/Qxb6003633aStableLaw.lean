/-
  The walk of FnBeforeIsStableFilter.
-/
import Derived.Test.Qxb6003633aEqRw
namespace Go.Proofs.Qxb6003633a
open Go.RowKit

theorem Try.info37' : ∃ j, Try.prog.info? 37 = some j ∧ j.size ≠ 0 := by
  have := Try.info37
  cases h : Try.prog.info? 37 with
  | none => rw [h] at this; cases this
  | some j =>
    rw [h] at this
    simp only [Option.map_some, Option.some.injEq, Prod.mk.injEq] at this
    exact ⟨j, rfl, by rw [this.2.1]; decide⟩

theorem Own.block {w : World} {g cap : Nat} {t : TypeId} {es : List Rw} (h : Own Rw.cells 4 w t g cap es) : ∃ cur, w.heap[g]? = some (.cells cur t (0, 0)) := by
  obtain ⟨cur, hg, _⟩ := (own_iff rw_len).1 h
  exact ⟨cur, hg⟩

/-- What Before gives, and whether it is the slice itself. -/
theorem bef_case {w w' : World} {v' : Value} {g b' cap : Nat} {rs : List Rw} {t : Int} (ho : Own Rw.cells 4 w 37 g cap rs) (h : Bef w w' (.slice (some ⟨g, 0, none⟩) rs.length cap) v' g b' rs t) :
    ∃ c, v' = .slice (some ⟨b', 0, none⟩) (bef t rs).length c ∧ ∀ W, Kp No w' W → (binOp .eql 38 (.pointer (some ⟨b', 0, none⟩)) (.pointer (some ⟨g, 0, none⟩))).run Try.prog W = .ok (.bool (((bef t rs).length : Int) == (rs.length : Int))) W := by
  obtain ⟨j, hj, hjs⟩ := Try.info37'
  by_cases hall : rs.length ≤ (bef t rs).length
  · obtain ⟨rfl, rfl⟩ := h.same hall
    have e := bef_all t rs hall
    refine ⟨cap, by rw [e], fun W _ => ?_⟩
    rw [run_eql_ptr_same W _ Try.underlying38 hj, e]
    simp
  · obtain ⟨h1, c, h2, h3⟩ := h.other (by omega)
    refine ⟨c, h2, fun W hk => ?_⟩
    have hg := ho.lt
    obtain ⟨cur, hc⟩ := ((ho.kp h.kp (no_not _)).kp hk (no_not _)).block
    obtain ⟨cur2, hc2⟩ := (h3.kp hk (no_not _)).block
    rw [run_eql_ptr_other W Try.underlying38 hj hjs (a := ⟨b', 0, none⟩) (b := ⟨g, 0, none⟩) (fun e => by injection e; omega) hc2 hc]
    have : (((bef t rs).length : Int) == (rs.length : Int)) = false := beq_eq_false_iff_ne.2 (by omega)
    rw [this]

set_option maxHeartbeats 2000000 in
set_option maxRecDepth 100000 in
theorem stableLaw_calls (v : Value) (b : Nat) (rs : List Rw) (t : Int) (w : World) (hs : Sl Rw.cells 4 w b v rs) (hn : rs.length ≤ maxLen) :
    Calls Try.prog 5 #[v, .int .i64 t] w fun r w' => r = .returned (.bool true) ∧ Kp No w w' := by
  have hs0 := hs
  obtain ⟨a, c, rfl, hat⟩ := hs
  clear hat
  have hbytes := fun W => bytes5_calls a rs.length c t W hn
  unfold maxLen at hn
  by_cases h1 : rs.length ≤ 32768
  · have hd1 : decide ((32768 : Int) < (rs.length : Int)) = false := decide_eq_false (by omega)
    go_enter Try.func5, Try.ntmps5
    go_wp2_with fail
    refine (hbytes _).mono ?_
    rintro r w1 ⟨rb, rfl, hk1⟩
    cases rb
    · go_wp2_with fail
      go_ret
      exact ⟨rfl, hk1⟩
    go_wp2_with fail
    refine (clone_calls _ b rs _ (hs0.kp hk1 (no_not _)) (by omega)).mono ?_
    rintro r w2 ⟨v3, b3, rfl, hs3, hb3, hk2⟩
    have hk02 := hk1.then hk2
    have hs30 := hs3
    obtain ⟨a3, c3, rfl, hat3⟩ := hs3
    clear hat3 hk1 hk2 hs0 hbytes
    go_wp2_with fail
    refine (work_calls _ b3 rs _ hs30 (by omega)).mono ?_
    rintro r w4 ⟨g, rfl, ho4, hg4, hk4⟩
    have hsg := ho4.sl rw_len
    have hs32 := hs30.kp hk4 (no_not _)
    have hk04 := hk02.then hk4
    clear hs30 hk4 hk02
    go_wp2_with fail
    refine (before_calls _ g rs t _ hsg (by omega)).mono ?_
    rintro r w5 ⟨v5, b5, rfl, h5⟩
    have hl5 := bef_len t rs
    have hs5 := h5.sl
    obtain ⟨c5, rfl, hptr⟩ := bef_case ho4 h5
    have hsg5 := hsg.kp h5.kp (no_not _)
    have hs35 := hs32.kp h5.kp (no_not _)
    have hk05 := hk04.then h5.kp
    clear h5 hsg hs32 hk04 ho4
    go_wp2_with fail
    refine (count_calls _ b3 rs t _ hs35 (by omega)).mono ?_
    rintro r w6 ⟨rfl, hk6⟩
    have hk06 := hk05.then hk6
    have hs6 := hs5.kp hk6 (no_not _)
    have hsg6 := hsg5.kp hk6 (no_not _)
    have hptr6 : ∀ W, Kp No w6 W → _ := fun W h => hptr W (hk6.then h)
    clear hptr hk05 hs5 hsg5 hs35 hk6
    obtain ⟨zs, hzs⟩ : ∃ zs, zs = bef t rs := ⟨_, rfl⟩
    rw [← hzs] at hptr6 hs6 hl5 ⊢
    have HZS : Hid (zs = bef t rs) := hzs
    clear hzs
    have HPTR : Hid (∀ W, Kp No w6 W → _) := hptr6
    clear hptr6
    have hne : ((zs.length : Int) != (zs.length : Int)) = false := by simp
    go_wp2_with fail
    go_loopw [8] (fun ti w' => ∃ i : Nat, i ≤ zs.length ∧ ti = .int .i64 i ∧ Kp No w6 w') (fun ti _ => zs.length - (intOf ti).toNat)
    case atStart => exact ⟨0, by omega, rfl, Kp.refl _ _⟩
    case round =>
      obtain ⟨i, hi, rfl, hk7⟩ := hrel
      by_cases hlt : i < zs.length
      · obtain ⟨o6, ha6, hat6⟩ := hs6.get hlt
        cases ha6
        obtain ⟨p0, p1, p2, p3⟩ := rw_at (hat6.kp hk7 (no_not _))
        have hmon : zs[i].mon < t := by
          have h := bef_mem t rs i (by rw [← HZS.out]; exact hlt)
          simp only [← HZS.out] at h
          exact h
        have hd : decide (t ≤ zs[i].mon) = false := decide_eq_false (by omega)
        clear hat6
        simp only [Nat.zero_add] at p0 p1 p2 p3
        go_wp2_with fail
        go_roundw
        case rel => exact ⟨i + 1, by omega, by go_num, hk7⟩
        case measure => simp [intOf]; omega
      · have hs7 := hs6.kp hk7 (no_not _)
        have hsg7 := hsg6.kp hk7 (no_not _)
        have hk07 := hk06.then hk7
        have HP7 : Hid (∀ W, Kp No wr W → _) := fun W h => HPTR.out W (hk7.then h)
        clear hs6 hsg6 hk06 HPTR hk7
        go_wp2_with fail
        go_loopw [9, 10] (fun tj ti w' => ∃ i j : Nat, i ≤ rs.length ∧ j ≤ zs.length ∧ (bef t (rs.take i)).length ≤ j ∧ tj = .int .i64 j ∧ ti = .int .i64 i ∧ Kp No wr w') (fun _ ti _ => rs.length - (intOf ti).toNat)
        case atStart => exact ⟨0, 0, by omega, by omega, by simp [bef], rfl, rfl, Kp.refl _ _⟩
        case round =>
          obtain ⟨i2, j, hi2, hj, hcnt, rfl, rfl, hk8⟩ := hrel
          have HCNT : Hid ((bef t (rs.take i2)).length ≤ j) := hcnt
          clear hcnt
          by_cases hlt2 : i2 < rs.length
          · obtain ⟨o7, ha7, hat7⟩ := hsg7.get hlt2
            cases ha7
            obtain ⟨q0, q1, q2, q3⟩ := rw_at (hat7.kp hk8 (no_not _))
            simp only [Nat.zero_add] at q0 q1 q2 q3
            have HST : Hid (bef t (rs.take (i2 + 1)) = if rs[i2].mon < t then bef t (rs.take i2) ++ [rs[i2]] else bef t (rs.take i2)) := bef_step t rs i2 hlt2
            clear hat7
            by_cases hj1 : j < zs.length
            · have hdj : decide ((j : Int) < (zs.length : Int)) = true := decide_eq_true (by omega)
              obtain ⟨o6, ha6, hat6⟩ := hs7.get hj1
              cases ha6
              obtain ⟨p0, p1, p2, p3⟩ := rw_at (hat6.kp hk8 (no_not _))
              simp only [Nat.zero_add] at p0 p1 p2 p3
              clear hat6
              have hq := run_eql_rw zs[j] rs[i2]
              unfold Rw.val at hq
              cases he : eqRw zs[j] rs[i2]
              · rw [he] at hq
                have hne : zs[j] ≠ rs[i2] := fun e => by rw [(eqRw_iff _ _).2 e] at he; cases he
                have HNE : Hid (zs[j] ≠ rs[i2]) := hne
                clear he hne
                go_wp2_with fail
                refine wp_region_text [2, 3, 33] Try.mixed (by kernel_rfl) ?_
                go_wp2_with fail
                refine ⟨by kernel_rfl, ?_⟩
                go_wp2_with fail
                go_roundw
                case rel =>
                  refine ⟨i2 + 1, j, by omega, by omega, ?_, rfl, by go_num, hk8.drew⟩
                  rw [HST.out]
                  split
                  · rename_i hc
                    rw [List.length_append]
                    have h1 := HCNT.out
                    rcases Nat.lt_or_ge (bef t (rs.take i2)).length j with h | h
                    · exact h
                    · exfalso
                      have e : (bef t (rs.take i2)).length = j := by omega
                      have h2 := bef_get t rs i2 hlt2 hc
                      rw [← HZS.out, e, List.getElem?_eq_getElem hj1] at h2
                      exact HNE.out (Option.some.inj h2)
                  · exact HCNT.out
                case measure => simp [intOf]; omega
              · rw [he] at hq
                clear he
                go_wp2_with fail
                refine wp_region_text [2, 3, 33] Try.mixed (by kernel_rfl) ?_
                go_wp2_with fail
                refine ⟨by kernel_rfl, ?_⟩
                go_wp2_with fail
                go_roundw
                case rel =>
                  refine ⟨i2 + 1, j + 1, by omega, by omega, ?_, by go_num, by go_num, hk8.drew⟩
                  rw [HST.out]
                  have := HCNT.out
                  split
                  · rw [List.length_append]; simp; omega
                  · omega
                case measure => simp [intOf]; omega
            · have hdj : decide ((j : Int) < (zs.length : Int)) = false := decide_eq_false (by omega)
              go_wp2_with fail
              refine wp_region_text [2, 3, 33] Try.mixed (by kernel_rfl) ?_
              go_wp2_with fail
              refine ⟨by kernel_rfl, ?_⟩
              go_wp2_with fail
              go_roundw
              case rel =>
                refine ⟨i2 + 1, j, by omega, by omega, ?_, rfl, by go_num, hk8.drew⟩
                have h1 := bef_le t rs (i2 + 1)
                rw [← HZS.out] at h1
                omega
              case measure => simp [intOf]; omega
          · have hje : j = zs.length := by
              have h1 := HCNT.out
              rw [List.take_of_length_le (by omega), ← HZS.out] at h1
              omega
            have hjn : ((j : Int) != (zs.length : Int)) = false := by rw [hje]; simp
            have HJ : Hid (j = zs.length) := hje
            clear hje
            have hk08 := hk07.then hk8
            by_cases hz : 0 < zs.length
            · have hdz : decide ((0 : Int) < (zs.length : Int)) = true := decide_eq_true (by omega)
              have hrl : 0 < rs.length := by omega
              have hp := HP7.out _ hk8.drew
              by_cases hall : zs.length = rs.length
              · have hb : ((zs.length : Int) == (rs.length : Int)) = true := beq_iff_eq.2 (by omega)
                have HA : Hid (zs.length = rs.length) := hall
                clear hall
                rw [hb] at hp
                go_wp2_with fail
                refine wp_region_text [2, 3, 33] Try.mixed (by kernel_rfl) ?_
                go_wp2_with fail
                refine ⟨by kernel_rfl, ?_⟩
                go_wp2_with fail
                go_ret
                exact ⟨rfl, hk08.drew⟩
              · have hb : ((zs.length : Int) == (rs.length : Int)) = false := beq_eq_false_iff_ne.2 (by omega)
                clear hall
                rw [hb] at hp
                go_wp2_with fail
                refine wp_region_text [2, 3, 33] Try.mixed (by kernel_rfl) ?_
                go_wp2_with fail
                refine ⟨by kernel_rfl, ?_⟩
                go_wp2_with fail
                go_ret
                exact ⟨rfl, hk08.drew⟩
            · go_wp2_with fail
              go_ret
              exact ⟨rfl, hk08⟩
  · have hd1 : decide ((32768 : Int) < (rs.length : Int)) = true := decide_eq_true (by omega)
    go_enter Try.func5, Try.ntmps5
    go_wp2_with fail
    refine (hbytes _).mono ?_
    rintro r w1 ⟨rb, rfl, hk1⟩
    cases rb
    · go_wp2_with fail
      go_ret
      exact ⟨rfl, hk1⟩
    go_wp2_with fail
    go_ret
    exact ⟨rfl, hk1⟩
end Go.Proofs.Qxb6003633a
