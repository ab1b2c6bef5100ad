import Derived.Test.Qxb6003632aCloneW
import Derived.Test.Qxb6003632aPlain2
namespace Go.Proofs.Qxb6003632a
open Go.RowKit

set_option maxHeartbeats 4000000 in
set_option maxRecDepth 100000 in
theorem sortEvs_calls (v : Value) (b : Nat) (es : List Ev) (w : World) (hs : Sl Ev.cells 7 w b v es) (hn : es.length ≤ 60000) :
    Calls Try.prog 29 #[v] w fun r w' => ∃ v' b' xs, r = .returned v' ∧ Sl Ev.cells 7 w' b' v' xs ∧ w.heap.size ≤ b' ∧ xs.Perm es ∧ xs.Pairwise fle ∧ Kp No w w' := by
  have hs0 := hs
  obtain ⟨a, c, rfl, hat⟩ := hs
  clear hat
  generalize hN : es.length = n at *
  have HN : Hid (es.length = n) := hN
  clear hN
  go_enter Try.func29, Try.ntmps29
  go_wp2_with (first
    | (at_make; refine wpList_make_row rfl _ _ 37 rfl ev_len 40 zeroEv zeroEv.val 48 Try.underlying37 Try.info40 rfl n _ rfl rfl rfl (by omega) (by omega) ?_; intro w1 ho1 hk1)
    | (refine wpList_copy_all rfl _ _ 37 37 rfl ev_len ev_one 40 Try.underlying37 Try.size40 _ _ _ _ rfl (by exact ho1) (by simp) b _ es rfl (by exact hs0.kp hk1 (no_not _)) HN.out ?_; intro w2 ho2 hk2; have hkA : Kp No w w2 := hk1.trans hk2 (fun i hi e => by omega)))
  have hg2 : w.heap.size < w2.heap.size := ho2.lt
  have hoA := ho2.kp hk1 (no_not _)
  have hkB := hkA.then hk1
  have hg1 : w.heap.size ≤ w.heap.size := Nat.le_refl _
  generalize w2.heap.size = G2 at *
  clear hk2 ho2 hkA hs0
  go_loopw [3, 4, 5] (fun o bf wd w' => ∃ (g1 g2 W : Nat) (xs zs : List Ev), o = .slice (some ⟨g1, 0, none⟩) n n ∧ bf = .slice (some ⟨g2, 0, none⟩) n n ∧ wd = .int .i64 W ∧ 1 ≤ W ∧ W ≤ 130000 ∧ g1 ≠ g2 ∧ w.heap.size ≤ g1 ∧ w.heap.size ≤ g2 ∧
      xs.length = n ∧ zs.length = n ∧ Own Ev.cells 7 w' 40 g1 n xs ∧ Own Ev.cells 7 w' 40 g2 n zs ∧ xs.Perm es ∧ Runs xs W ∧ Kp No w w') (fun _ _ wd _ => n - (intOf wd).toNat)
  case atStart => exact ⟨_, _, 1, es, _, rfl, rfl, rfl, by omega, by omega, by omega, hg1, by omega, HN.out, by simp, hoA, ho1, List.Perm.refl _, runs_one es, hkB⟩
  case round =>
    clear hoA ho1 hk1 hkB
    obtain ⟨g1, g2, W, xs, zs0, rfl, rfl, rfl, hW1, hW2, hne, hg1, hg2, hxl, hzl, ho1, ho2, hperm, hruns, hk⟩ := hrel
    have HXL : Hid (xs.length = n) := hxl
    have HZL : Hid (zs0.length = n) := hzl
    by_cases hWn : W < n
    · clear hxl hzl
      go_wp2_with fail
      go_loopw [6] (fun tl w' => ∃ (c lo : Nat) (zs : List Ev), lo = c * (2 * W) ∧ tl = .int .i64 lo ∧ lo ≤ n + 2 * W ∧ Pass xs zs W (min lo n) ∧ Own Ev.cells 7 w' 40 g1 n xs ∧ Own Ev.cells 7 w' 40 g2 n zs ∧ Kp No w w') (fun tl _ => n - (intOf tl).toNat)
      case atStart => exact ⟨0, 0, zs0, by simp, rfl, by omega, by rw [Nat.zero_min]; exact pass_start xs zs0 W (by rw [HXL.out, HZL.out]), ho1, ho2, hk⟩
      case round =>
        clear ho1 ho2 hk
        obtain ⟨c, lo, zs1, hlo, rfl, hlob, hpass, ho1, ho2, hk⟩ := hrel
        have HLO : Hid (lo = c * (2 * W)) := hlo
        clear hlo
        by_cases hln : lo < n
        · go_upto_if 41 with fail
          go_cut [7] (fun t w' => ∃ mid : Nat, t = .int .i64 mid ∧ mid = min (lo + W) n ∧ Own Ev.cells 7 w' 40 g1 n xs ∧ Own Ev.cells 7 w' 40 g2 n zs1 ∧ Kp No w w')
          case first =>
            by_cases hm : n < lo + W
            · go_wp2_with fail
              go_meet
              case rel => exact ⟨n, rfl, by omega, ho1, ho2, hk⟩
            · go_wp2_with fail
              go_meet
              case rel => exact ⟨lo + W, by go_num, by omega, ho1, ho2, hk⟩
          case rest =>
            clear ho1 ho2 hk
            obtain ⟨mid, rfl, hmid, ho1, ho2, hk⟩ := hcut
            have HMID : Hid (mid = min (lo + W) n) := hmid
            have hmid1 : lo ≤ mid := by omega
            have hmid2 : mid ≤ n := by omega
            have hmid3 : mid ≤ lo + W := by omega
            have hmid4 : mid < lo + W → mid = n := by omega
            clear hmid
            go_upto_if 51 with fail
            go_cut [8] (fun t w' => ∃ hi : Nat, t = .int .i64 hi ∧ hi = min (lo + 2 * W) n ∧ Own Ev.cells 7 w' 40 g1 n xs ∧ Own Ev.cells 7 w' 40 g2 n zs1 ∧ Kp No w w')
            case first =>
              by_cases hm : n < lo + 2 * W
              · go_wp2_with fail
                go_meet
                case rel => exact ⟨n, rfl, by omega, ho1, ho2, hk⟩
              · go_wp2_with fail
                go_meet
                case rel => exact ⟨lo + 2 * W, by go_num, by omega, ho1, ho2, hk⟩
            case rest =>
              clear ho1 ho2 hk
              obtain ⟨hi, rfl, hhi, ho1, ho2, hk⟩ := hcut
              have HHI : Hid (hi = min (lo + 2 * W) n) := hhi
              have hhi1 : mid ≤ hi := by omega
              have hhi2 : hi ≤ n := by omega
              have hhi3 : hi ≤ lo + 2 * W := by omega
              have HM4 : Hid (mid < lo + W → mid = n) := hmid4
              clear hhi hmid4
              go_wp2_with fail
              go_loopw [9, 10, 11] (fun ti tj tk w' => ∃ (i j k : Nat) (zs ms : List Ev), ti = .int .i64 i ∧ tj = .int .i64 j ∧ tk = .int .i64 k ∧ Mrg xs zs (zs1.take lo) lo mid hi i j k ms ∧ Own Ev.cells 7 w' 40 g1 n xs ∧ Own Ev.cells 7 w' 40 g2 n zs ∧ Kp No w w')
                (fun ti tj _ _ => (mid - (intOf ti).toNat) + (hi - (intOf tj).toNat))
              case atStart => exact ⟨lo, mid, lo, zs1, [], rfl, rfl, rfl, mrg_start hpass.len hmid1 hhi1 (by rw [HXL.out]; exact hhi2), ho1, ho2, hk⟩
              case round =>
                clear ho1 ho2 hk
                obtain ⟨i, j, k, zs, ms, rfl, rfl, rfl, hm, ho1, ho2, hk⟩ := hrel
                have hb := hm.bnd
                have hkk := hm.kk
                have hzl : zs.length = n := by rw [hm.len]; exact HXL.out
                obtain ⟨hb1, hb2, hb3, hb4, hb5⟩ := hb
                have HM : Hid (Mrg xs zs (zs1.take lo) lo mid hi i j k ms) := hm
                have HZ : Hid (zs.length = n) := hzl
                have hkn : k ≤ n := by omega
                clear hm hzl
                go_upto_region 19 with fail
                go_cut [64] (fun t w' => ∃ bb, t = .bool bb ∧ (bb = true ↔ (i < mid ∧ j < hi)) ∧ Own Ev.cells 7 w' 40 g1 n xs ∧ Own Ev.cells 7 w' 40 g2 n zs ∧ Kp No w w')
                case first =>
                  by_cases h1 : i < mid
                  · by_cases h2 : j < hi
                    · go_wp2_with fail
                      go_meet
                      case rel => exact ⟨true, rfl, by simp [h1, h2], ho1, ho2, hk⟩
                    · go_wp2_with fail
                      go_meet
                      case rel => exact ⟨false, rfl, by simp [h2], ho1, ho2, hk⟩
                  · go_wp2_with fail
                    go_meet
                    case rel => exact ⟨false, rfl, by simp [h1], ho1, ho2, hk⟩
                case rest =>
                  clear ho1 ho2 hk
                  obtain ⟨bb, rfl, hbb, ho1, ho2, hk⟩ := hcut
                  cases bb
                  · have hex : i < mid → j = hi := fun h => by
                      have : ¬ (i < mid ∧ j < hi) := fun h' => by have := hbb.2 h'; cases this
                      omega
                    have HEX : Hid (i < mid → j = hi) := hex
                    clear hbb hex
                    go_wp2_with fail
                    go_loopw [9, 11] (fun ti tk w' => ∃ (i k : Nat) (zs ms : List Ev), ti = .int .i64 i ∧ tk = .int .i64 k ∧ Mrg xs zs (zs1.take lo) lo mid hi i j k ms ∧ (i < mid → j = hi) ∧ Own Ev.cells 7 w' 40 g1 n xs ∧ Own Ev.cells 7 w' 40 g2 n zs ∧ Kp No w w')
                      (fun ti _ _ => mid - (intOf ti).toNat)
                    case atStart => exact ⟨i, k, zs, ms, rfl, rfl, HM.out, HEX.out, ho1, ho2, hk⟩
                    case round =>
                      clear ho1 ho2 hk HEX HM HZ hkn hb1 hb2 hb3 hb4 hb5 hkk
                      obtain ⟨i, k, zs, ms, rfl, rfl, hm, hex, ho1, ho2, hk⟩ := hrel
                      obtain ⟨hb1, hb2, hb3, hb4, hb5⟩ := hm.bnd
                      have hkk := hm.kk
                      have HZ : Hid (zs.length = n) := by have := HXL.out; exact hm.len.trans this
                      have HM : Hid (Mrg xs zs (zs1.take lo) lo mid hi i j k ms) := hm
                      have hkn : k ≤ n := by omega
                      have HEX : Hid (i < mid → j = hi) := hex
                      clear hm hex
                      by_cases hi1 : i < mid
                      · have hxi : i < xs.length := by rw [HXL.out]; omega
                        have hkz : k < zs.length := by rw [HZ.out]; omega
                        have hin : i < n := by omega
                        have hkn' : k < n := by have := HEX.out hi1; omega
                        obtain ⟨p0, p1, p2, p3, p4, p5, p6⟩ := ev_at (ho1.at ev_len hxi)
                        go_wp2_with (refine wpList_store_own rfl 40 _ _ rfl ev_len 40 g2 n zs k xs[i] _ rfl (by rfl) xs[i].val rfl rfl (ev_one _) Try.size40 (by exact ho2) hkz ?_; intro w5 ho5 hk5)
                        have ho6 := ho1.kp hk5 hne
                        have hk6 : Kp No w w5 := hk.trans hk5 (fun q hq e => by omega)
                        clear p0 p1 p2 p3 p4 p5 p6 ho1 ho2 hk hk5
                        go_roundw
                        case rel =>
                          refine ⟨i + 1, k + 1, zs.set k xs[i], ms ++ [xs[i]], by go_num, by go_num, mrg_left HM.out hi1 hxi hkz ?_ ?_, fun _ => HEX.out hi1, ho6, ho5, hk6⟩
                          · intro q hq h1 h2
                            exact run_left (c := c) hruns hW1 hxi hq (by have := HLO.out; omega) h1 (by have := HLO.out; omega)
                          · intro q hq h1 h2
                            have := HEX.out hi1
                            omega
                        case measure => simp [intOf]; omega
                      · have hie : i = mid := by omega
                        have HIE : Hid (i = mid) := hie
                        clear hie
                        go_wp2_with fail
                        go_loopw [10, 11] (fun tj tk w' => ∃ (j k : Nat) (zs ms : List Ev), tj = .int .i64 j ∧ tk = .int .i64 k ∧ Mrg xs zs (zs1.take lo) lo mid hi mid j k ms ∧ Own Ev.cells 7 w' 40 g1 n xs ∧ Own Ev.cells 7 w' 40 g2 n zs ∧ Kp No w w')
                          (fun tj _ _ => hi - (intOf tj).toNat)
                        case atStart => exact ⟨j, k, zs, ms, rfl, rfl, by have := HM.out; rw [HIE.out] at this; exact this, ho1, ho2, hk⟩
                        case round =>
                          clear ho1 ho2 hk HM HZ hkn hb1 hb2 hb3 hb4 hb5 hkk
                          obtain ⟨j, k, zs, ms, rfl, rfl, hm, ho1, ho2, hk⟩ := hrel
                          obtain ⟨hb1, hb2, hb3, hb4, hb5⟩ := hm.bnd
                          have hkk := hm.kk
                          have HZ : Hid (zs.length = n) := by have := HXL.out; exact hm.len.trans this
                          have HM : Hid (Mrg xs zs (zs1.take lo) lo mid hi mid j k ms) := hm
                          have hkn : k ≤ n := by omega
                          clear hm
                          by_cases hj1 : j < hi
                          · have hxj : j < xs.length := by rw [HXL.out]; omega
                            have hkz : k < zs.length := by rw [HZ.out]; omega
                            have hjn : j < n := by omega
                            have hkn' : k < n := by omega
                            obtain ⟨p0, p1, p2, p3, p4, p5, p6⟩ := ev_at (ho1.at ev_len hxj)
                            go_wp2_with (refine wpList_store_own rfl 40 _ _ rfl ev_len 40 g2 n zs k xs[j] _ rfl (by rfl) xs[j].val rfl rfl (ev_one _) Try.size40 (by exact ho2) hkz ?_; intro w5 ho5 hk5)
                            have ho6 := ho1.kp hk5 hne
                            have hk6 : Kp No w w5 := hk.trans hk5 (fun q hq e => by omega)
                            clear p0 p1 p2 p3 p4 p5 p6 ho1 ho2 hk hk5
                            go_roundw
                            case rel =>
                              refine ⟨j + 1, k + 1, zs.set k xs[j], ms ++ [xs[j]], by go_num, by go_num, mrg_right HM.out hj1 hxj hkz ?_ ?_, ho6, ho5, hk6⟩
                              · intro q hq h1 h2
                                refine run_right (c := c) hruns hW1 hxj hq ?_ h1 (by have := HLO.out; omega)
                                have := HLO.out
                                have hm5 : mid = lo + W := by
                                  have := HM4.out
                                  omega
                                omega
                              · intro q hq h1 h2
                                omega
                            case measure => simp [intOf]; omega
                          · go_wp2_with fail
                            go_roundw
                            case rel =>
                              have hje : j = hi := by omega
                              have hke : k = hi := by omega
                              have hm := HM.out
                              rw [hje, hke] at hm
                              have hhi := HHI.out
                              have hlo := HLO.out
                              have hminlo : min lo n = lo := by omega
                              rw [hminlo, hlo] at hpass
                              rw [hlo] at hm
                              have hp' := pass_step hW1 hpass (by rw [HXL.out]; omega) (by rw [HXL.out]; omega) hm
                              have e1 : min (lo + 2 * W) n = hi := hhi.symm
                              exact ⟨c + 1, lo + 2 * W, zs, by rw [Nat.add_mul, ← hlo, Nat.one_mul], by go_num, by omega, by rw [e1]; exact hp', ho1, ho2, hk⟩
                            case measure => simp [intOf]; omega
                  · have hc : i < mid ∧ j < hi := hbb.1 rfl
                    obtain ⟨hi1, hj1⟩ := hc
                    clear hbb
                    have hxi : i < xs.length := by rw [HXL.out]; omega
                    have hxj : j < xs.length := by rw [HXL.out]; omega
                    have hkz : k < zs.length := by rw [HZ.out]; omega
                    have hjn : j < n := by omega
                    have hin : i < n := by omega
                    have hkn' : k < n := by omega
                    have hat1 := ho1.at ev_len hxi
                    have hat2 := ho1.at ev_len hxj
                    obtain ⟨p0, p1, p2, p3, p4, p5, p6⟩ := ev_at hat1
                    obtain ⟨q0, q1, q2, q3, q4, q5, q6⟩ := ev_at hat2
                    go_wp2_with fail
                    refine wp_region_text [2, 3, 5, 38] Try.mixed (by kernel_rfl) ?_
                    go_wp2_with fail
                    refine (fullLess_calls xs[j] xs[i] _).mono ?_
                    rintro r w4 ⟨rfl, hk4⟩
                    go_wp2_with fail
                    refine ⟨by kernel_rfl, ?_⟩
                    have ho1' := (show Own Ev.cells 7 (World.drew _) 40 g1 n xs from ho1).kp hk4 (no_not _)
                    have ho2' := (show Own Ev.cells 7 (World.drew _) 40 g2 n zs from ho2).kp hk4 (no_not _)
                    have hk' := hk.drew.then hk4
                    clear p0 p1 p2 p3 p4 p5 p6 q0 q1 q2 q3 q4 q5 q6 hat1 hat2 ho1 ho2 hk hk4
                    cases hf : fullLess xs[j] xs[i]
                    · obtain ⟨p0, p1, p2, p3, p4, p5, p6⟩ := ev_at (ho1'.at ev_len hxi)
                      go_wp2_with (refine wpList_store_own rfl 40 _ _ rfl ev_len 40 g2 n zs k xs[i] _ rfl (by rfl) xs[i].val rfl rfl (ev_one _) Try.size40 (by exact ho2') hkz ?_; intro w5 ho5 hk5)
                      have ho6 := ho1'.kp hk5 hne
                      have hk6 : Kp No w w5 := hk'.trans hk5 (fun q hq e => by omega)
                      clear p0 p1 p2 p3 p4 p5 p6
                      go_roundw
                      case rel =>
                        refine ⟨i + 1, j, k + 1, zs.set k xs[i], ms ++ [xs[i]], by go_num, rfl, by go_num, mrg_left HM.out hi1 hxi hkz ?_ ?_, ho6, ho5, hk6⟩
                        · intro q hq h1 h2
                          exact run_left (c := c) hruns hW1 hxi hq (by have := HLO.out; omega) h1 (by have := HLO.out; omega)
                        · intro q hq h1 h2
                          refine fle_trans (show fle xs[i] xs[j] from hf) (run_right (c := c) hruns hW1 hxj hq ?_ h1 (by have := HLO.out; omega))
                          have := HLO.out
                          have hm5 : mid = lo + W := by
                            have := HM4.out
                            omega
                          omega
                      case measure => simp [intOf]; omega
                    · obtain ⟨p0, p1, p2, p3, p4, p5, p6⟩ := ev_at (ho1'.at ev_len hxj)
                      go_wp2_with (refine wpList_store_own rfl 40 _ _ rfl ev_len 40 g2 n zs k xs[j] _ rfl (by rfl) xs[j].val rfl rfl (ev_one _) Try.size40 (by exact ho2') hkz ?_; intro w5 ho5 hk5)
                      have ho6 := ho1'.kp hk5 hne
                      have hk6 : Kp No w w5 := hk'.trans hk5 (fun q hq e => by omega)
                      clear p0 p1 p2 p3 p4 p5 p6
                      go_roundw
                      case rel =>
                        refine ⟨i, j + 1, k + 1, zs.set k xs[j], ms ++ [xs[j]], rfl, by go_num, by go_num, mrg_right HM.out hj1 hxj hkz ?_ ?_, ho6, ho5, hk6⟩
                        · intro q hq h1 h2
                          refine run_right (c := c) hruns hW1 hxj hq ?_ h1 (by have := HLO.out; omega)
                          have := HLO.out
                          have hm5 : mid = lo + W := by
                            have := HM4.out
                            omega
                          omega
                        · intro q hq h1 h2
                          exact fle_trans (fle_of_less hf) (run_left (c := c) hruns hW1 hxi hq (by have := HLO.out; omega) h1 (by have := HLO.out; omega))
                      case measure => simp [intOf]; omega
        · go_wp2_with fail
          go_roundw
          case rel =>
            have hmin : min lo n = n := by omega
            rw [hmin, ← HXL.out] at hpass
            obtain ⟨hp1, hp2⟩ := pass_end hpass
            exact ⟨g2, g1, 2 * W, zs1, xs, rfl, rfl, by go_num, by omega, by omega, fun e => hne e.symm, hg2, hg1, by rw [hpass.len]; exact HXL.out, HXL.out, ho2, ho1, hp1.trans hperm, hp2, hk⟩
          case measure => simp [intOf]; omega
    · have hs1 := runs_all hruns (by omega)
      go_wp2_with fail
      go_ret
      exact ⟨_, _, xs, rfl, by have := ho1.sl ev_len; rw [HXL.out] at this; exact this, hg1, hperm, hs1, hk⟩
end Go.Proofs.Qxb6003632a
