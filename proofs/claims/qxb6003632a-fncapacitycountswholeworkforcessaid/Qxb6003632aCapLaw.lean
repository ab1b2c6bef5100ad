/-
  The walk of FnCapacityCountsWholeWorkforces.
-/
import Derived.Test.Qxb6003632aCapFin
namespace Go.Proofs.Qxb6003632a
open Go.RowKit

def ct0 (z : Int) : Ct := ⟨ByteArray.empty, 0, 0, z⟩
theorem csl_one {w : World} {b c : Nat} {t : TypeId} {fz : Nat × Nat} {e : Ct} (h : w.heap[b]? = some (.cells e.cells.toArray t fz)) : Sl Ct.cells 4 w b (.slice (some ⟨b, 0, none⟩) 1 c) [e] := by
  refine ⟨some ⟨b, 0, none⟩, c, rfl, fun i hi => ⟨0, rfl, ?_⟩⟩
  obtain rfl : i = 0 := by simp at hi; omega
  exact at_row h

/-- The workforce so far: r whole rounds and i of the next. -/
structure Wh (subs ws : List Int) (r i : Nat) : Prop where
  len : ws.length = r * subs.length + i
  sum : ws.sum = (r : Int) * subs.sum + (subs.take i).sum
  bnd : ∀ z ∈ ws, Bnd z
theorem Wh.step {subs ws : List Int} {r i : Nat} (h : Wh subs ws r i) (hb : ∀ z ∈ subs, Bnd z) (hi : i < subs.length) : Wh subs (ws ++ [subs[i]]) r (i + 1) := by
  refine ⟨by rw [List.length_append, h.len]; rfl, ?_, ?_⟩
  · rw [List.sum_append, h.sum, sum_step subs i hi]
    simp
    omega
  · intro z hz
    rcases List.mem_append.1 hz with h1 | h1
    · exact h.bnd z h1
    · rw [List.mem_singleton.1 h1]
      exact hb _ (List.getElem_mem hi)
theorem Wh.next {subs ws : List Int} {r i : Nat} (h : Wh subs ws r i) (hi : i = subs.length) : Wh subs ws (r + 1) 0 := by
  subst hi
  refine ⟨by rw [h.len, Nat.add_mul, Nat.one_mul]; rfl, ?_, h.bnd⟩
  rw [h.sum, List.take_of_length_le (Nat.le_refl _)]
  simp [Int.add_mul]

set_option maxHeartbeats 8000000 in
set_option maxRecDepth 1000000 in
theorem capLaw_calls (st k : Int) (v1 v2 v3 : Value) (b1 b2 b3 : Nat) (lv : List Nat) (subs : List Int) (cts : List Ct) (w : World) (hs1 : Sl fcell 1 w b1 v1 lv) (hs2 : Sl icell 1 w b2 v2 subs) (hs3 : Sl Ct.cells 4 w b3 v3 cts)
    (h1 : lv.length ≤ maxLen) (h2 : subs.length ≤ maxLen) (h3 : cts.length ≤ maxLen) :
    Calls Try.prog 3 #[.int .i64 st, v1, v2, v3, .int .i64 k] w fun r w' => r = .returned (.bool true) ∧ Kp No w w' := by
  have hs10 := hs1
  have hs20 := hs2
  have hs30 := hs3
  obtain ⟨a1, c1, rfl, hat⟩ := hs1
  clear hat
  obtain ⟨a2, c2, rfl, hat⟩ := hs2
  clear hat
  obtain ⟨a3, c3, rfl, hat⟩ := hs3
  clear hat
  have hbytes := fun W h => bytesCap_calls st k a1 a2 lv.length c1 subs.length c2 (.slice a3 cts.length c3) b3 cts W h h1 h2 h3
  unfold maxLen at h1 h2 h3
  by_cases g1 : lv.length ≤ 4096
  · by_cases g2 : subs.length ≤ 4096
    · by_cases g3 : cts.length ≤ 4096
      · have hd1 : decide ((4096 : Int) < (lv.length : Int)) = false := decide_eq_false (by omega)
        have hd2 : decide ((4096 : Int) < (subs.length : Int)) = false := decide_eq_false (by omega)
        have hd3 : decide ((4096 : Int) < (cts.length : Int)) = false := decide_eq_false (by omega)
        go_enter Try.func3, Try.ntmps3
        go_wp2_with fail
        refine (hbytes _ hs30).mono ?_
        rintro r w1 ⟨rb, rfl, hrb, hk1⟩
        cases rb
        · go_wp2_with fail
          go_ret
          exact ⟨rfl, hk1⟩
        have HID : Hid (∀ c ∈ cts, c.id.size ≤ 1048576) := hrb rfl
        have hs31 := hs30.kp hk1 (no_not _)
        have hs11 := hs10.kp hk1 (no_not _)
        have hs21 := hs20.kp hk1 (no_not _)
        clear hrb hbytes hs30 hs10 hs20
        go_wp2_with fail
        go_loopw [11, 12] (fun tn ti w' => ∃ (i : Nat) (z : Int), i ≤ cts.length ∧ 0 ≤ z ∧ z ≤ 1048576 ∧ tn = .int .i64 z ∧ ti = .int .i64 i ∧ Kp No w1 w') (fun _ ti _ => cts.length - (intOf ti).toNat)
        case atStart => exact ⟨0, _, by omega, by omega, by omega, rfl, rfl, Kp.refl _ _⟩
        case round =>
          obtain ⟨i, z, hi, hz0, hz1, rfl, rfl, hk⟩ := hrel
          by_cases hlt : i < cts.length
          · obtain ⟨o, ha, hat⟩ := csl_get hs31 hlt
            subst ha
            obtain ⟨p0, p1, p2, p3⟩ := ct_at (hat.kp hk (no_not _))
            have HS : Hid (Sl Ct.cells 4 w1 b3 _ cts) := hs31
            clear hs31 hat
            have hb : cts[i].id.size ≤ 1048576 := HID.out _ (List.getElem_mem hlt)
            by_cases hzz : z + (40 + cts[i].id.size) ≤ 1048576
            · go_wp2_with fail
              go_roundw
              case rel => exact ⟨i + 1, z + (40 + cts[i].id.size), by omega, by omega, by omega, rfl, by go_num, hk⟩
              case measure => simp [intOf]; omega
            · have hzz' : (1048576 : Int) < z + (40 + (cts[i].id.size : Int)) := by omega
              go_wp2_with fail
              go_ret
              exact ⟨rfl, hk1.then hk⟩
          · have hk2 := hk1.then hk
            have hs32 := hs31.kp hk (no_not _)
            have hs12 := hs11.kp hk (no_not _)
            have hs22 := hs21.kp hk (no_not _)
            clear hk hk1 hs31 hs11 hs21
            by_cases hk0 : k < 0
            · go_wp2_with fail
              go_ret
              exact ⟨rfl, hk2⟩
            by_cases hk64 : 64 < k
            · go_wp2_with fail
              go_ret
              exact ⟨rfl, hk2⟩
            obtain ⟨kn, rfl⟩ : ∃ kn : Nat, k = kn := ⟨k.toNat, by omega⟩
            have hkn : kn ≤ 64 := by omega
            have hkd0 : decide ((kn : Int) < 0) = false := decide_eq_false (by omega)
            have hkd1 : decide ((64 : Int) < (kn : Int)) = false := decide_eq_false (by omega)
            clear hk0 hk64
            have hkm1 : (kn : Int) * (subs.length : Int) ≤ 262144 := by
              have : kn * subs.length ≤ 64 * 4096 := Nat.mul_le_mul hkn g2
              have e : ((kn * subs.length : Nat) : Int) = (kn : Int) * (subs.length : Int) := Int.natCast_mul _ _
              omega
            have hkm0 : (0 : Int) ≤ (kn : Int) * (subs.length : Int) := by
              have e : ((kn * subs.length : Nat) : Int) = (kn : Int) * (subs.length : Int) := Int.natCast_mul _ _
              omega
            by_cases hkm : 16384 < (kn : Int) * (subs.length : Int)
            · go_wp2_with fail
              go_ret
              exact ⟨rfl, hk2⟩
            go_wp2_with fail
            go_loopw [13] (fun ti w' => ∃ (i : Nat), i ≤ subs.length ∧ (∀ q (h : q < subs.length), q < i → Bnd subs[q]) ∧ ti = .int .i64 i ∧ Kp No wr w') (fun ti _ => subs.length - (intOf ti).toNat)
            case atStart => exact ⟨0, by omega, fun q _ h => by omega, rfl, Kp.refl _ _⟩
            case round =>
              obtain ⟨j, hj, hall, rfl, hk⟩ := hrel
              have HALL : Hid (∀ q (h : q < subs.length), q < j → Bnd subs[q]) := hall
              clear hall
              by_cases hlt2 : j < subs.length
              · obtain ⟨o, ha, hat⟩ := isl_get hs22 hlt2
                subst ha
                have hat := hk.cell hat (no_not _)
                have HS : Hid (Sl icell 1 _ b2 _ subs) := hs22
                clear hs22
                by_cases hb0 : subs[j] < 1
                · go_wp2_with fail
                  go_ret
                  exact ⟨rfl, hk2.then hk⟩
                · by_cases hb1 : 4294967296 < subs[j]
                  · have hb0' : decide (subs[j] < 1) = false := decide_eq_false hb0
                    go_wp2_with fail
                    go_ret
                    exact ⟨rfl, hk2.then hk⟩
                  · have hb0' : decide (subs[j] < 1) = false := decide_eq_false hb0
                    have hb1' : decide (4294967296 < subs[j]) = false := decide_eq_false hb1
                    go_wp2_with fail
                    go_roundw
                    case rel =>
                      refine ⟨j + 1, by omega, ?_, by go_num, hk⟩
                      intro q hq hqi
                      by_cases e : q = j
                      · subst e; unfold Bnd; omega
                      · exact HALL.out q hq (by omega)
                    case measure => simp [intOf]; omega
              · have hsb : ∀ z ∈ subs, Bnd z := fun z hz => by
                  obtain ⟨q, hq, rfl⟩ := List.getElem_of_mem hz
                  exact HALL.out q hq (by omega)
                have HSB : Hid (∀ z ∈ subs, Bnd z) := hsb
                clear HALL hsb
                have hk3 := hk2.then hk
                have hs33 := hs32.kp hk (no_not _)
                have hs13 := hs12.kp hk (no_not _)
                have hs23 := hs22.kp hk (no_not _)
                clear hk hk2 hs32 hs12 hs22
                go_wp2_with fail
                go_loopw [14] (fun ti w' => ∃ (i : Nat), i ≤ cts.length ∧ (∀ q (h : q < cts.length), q < i → Bnd cts[q].cap) ∧ ti = .int .i64 i ∧ Kp No wr w') (fun ti _ => cts.length - (intOf ti).toNat)
                case atStart => exact ⟨0, by omega, fun q _ h => by omega, rfl, Kp.refl _ _⟩
                case round =>
                  obtain ⟨q3, hq3, hall, rfl, hk⟩ := hrel
                  have HALL : Hid (∀ q (h : q < cts.length), q < q3 → Bnd cts[q].cap) := hall
                  clear hall
                  by_cases hlt3 : q3 < cts.length
                  · obtain ⟨o, ha, hat⟩ := csl_get hs33 hlt3
                    subst ha
                    obtain ⟨p0, p1, p2, p3⟩ := ct_at (hat.kp hk (no_not _))
                    have HS : Hid (Sl Ct.cells 4 _ b3 _ cts) := hs33
                    clear hs33 hat
                    by_cases hb0 : cts[q3].cap < 1
                    · go_wp2_with fail
                      go_ret
                      exact ⟨rfl, hk3.then hk⟩
                    · by_cases hb1 : 4294967296 < cts[q3].cap
                      · have hb0' : decide (cts[q3].cap < 1) = false := decide_eq_false hb0
                        go_wp2_with fail
                        go_ret
                        exact ⟨rfl, hk3.then hk⟩
                      · have hb0' : decide (cts[q3].cap < 1) = false := decide_eq_false hb0
                        have hb1' : decide (4294967296 < cts[q3].cap) = false := decide_eq_false hb1
                        go_wp2_with fail
                        go_roundw
                        case rel =>
                          refine ⟨q3 + 1, by omega, ?_, by go_num, hk⟩
                          intro q hq hqi
                          by_cases e : q = q3
                          · subst e; unfold Bnd; omega
                          · exact HALL.out q hq (by omega)
                        case measure => simp [intOf]; omega
                  · have hcb : ∀ z ∈ cts.map Ct.cap, Bnd z := fun z hz => by
                      obtain ⟨c, hc, rfl⟩ := List.mem_map.1 hz
                      obtain ⟨q, hq, rfl⟩ := List.getElem_of_mem hc
                      exact HALL.out q hq (by omega)
                    have HCB : Hid (∀ z ∈ cts.map Ct.cap, Bnd z) := hcb
                    clear HALL hcb HID
                    have hk4 := hk3.then hk
                    have hs34 := hs33.kp hk (no_not _)
                    have hs14 := hs13.kp hk (no_not _)
                    have hs24 := hs23.kp hk (no_not _)
                    clear hk hk3 hs33 hs13 hs23
                    go_wp2_with fail
                    refine (cloneF_calls _ b1 lv _ hs14 (by omega)).mono ?_
                    rintro r w5 ⟨v15, b15, rfl, hs15, hb15, hk5⟩
                    have hs25 := hs24.kp hk5 (no_not _)
                    have hs35 := hs34.kp hk5 (no_not _)
                    have hk05 := hk4.then hk5
                    clear hs14 hs24 hs34 hk4 hk5
                    have hs150 := hs15
                    obtain ⟨a15, c15, rfl, hat⟩ := hs15
                    clear hat
                    go_wp2_with fail
                    refine (cloneI_calls _ b2 subs _ hs25 (by omega)).mono ?_
                    rintro r w6 ⟨v26, b26, rfl, hs26, hb26, hk6⟩
                    have hs16 := hs150.kp hk6 (no_not _)
                    have hs36 := hs35.kp hk6 (no_not _)
                    have hk06 := hk05.then hk6
                    clear hs25 hs150 hs35 hk05 hk6
                    have hs260 := hs26
                    obtain ⟨a26, c26, rfl, hat⟩ := hs26
                    clear hat
                    go_wp2_with (at_make; refine wpList_make_row rfl _ _ 33 rfl ct_len 34 zeroCt zeroCt.val 40 Try.underlying33 Try.info34 rfl cts.length _ rfl rfl rfl (by omega) (by omega) ?_; intro w7 ho7 hk7)
                    have hgs : (w6.alloc (.cells #[.int .i64 st, .slice a15 lv.length c15, .slice a26 subs.length c26] 32)).heap.size = w6.heap.size + 1 := Array.size_push _
                    have hlb : (w6.alloc (.cells #[.int .i64 st, .slice a15 lv.length c15, .slice a26 subs.length c26] 32)).cell? ⟨w6.heap.size, 2, none⟩ = some (.slice a26 subs.length c26) := by
                      simp
                    rw [hgs] at ho7
                    have hkA := (Kp.refl No w6).alloc (.cells #[.int .i64 st, .slice a15 lv.length c15, .slice a26 subs.length c26] 32)
                    have hlb7 := hk7.cell hlb (no_not _)
                    have hk67 := hkA.then hk7
                    have hs17 := hs16.kp hk67 (no_not _)
                    have hs27 := hs260.kp hk67 (no_not _)
                    have hs37 := hs36.kp hk67 (no_not _)
                    have hk07 := hk06.then hk67
                    have hL1 : 0 < lv.length → b15 < w6.heap.size := fun h => by
                      obtain ⟨_, _, _, hh⟩ := hs16
                      obtain ⟨o, _, he⟩ := hh 0 h
                      exact World.block_lt_of_cell? w6 _ (he 0 _ rfl)
                    have hL2 : 0 < subs.length → b26 < w6.heap.size := fun h => by
                      obtain ⟨_, _, _, hh⟩ := hs260
                      obtain ⟨o, _, he⟩ := hh 0 h
                      exact World.block_lt_of_cell? w6 _ (he 0 _ rfl)
                    have hL3 : 0 < cts.length → b3 < w6.heap.size := fun h => by
                      obtain ⟨_, _, _, hh⟩ := hs36
                      obtain ⟨o, _, he⟩ := hh 0 h
                      exact World.block_lt_of_cell? w6 _ (he 0 _ rfl)
                    have hw6 : w.heap.size ≤ w6.heap.size := hk06.size
                    have hl7 := ho7.lt
                    clear hk67 hkA hlb hs16 hs260 hs36 hk06 hk7 hgs
                    generalize w6.heap.size = bl at *
                    go_loopw [17] (fun ti w' => ∃ (i : Nat) (zs : List Ct), i ≤ cts.length ∧ zs.length = cts.length ∧ (∀ j (h : j < cts.length) (h2 : j < zs.length), j < i → zs[j] = cts[j]) ∧ ti = .int .i64 i ∧ Own Ct.cells 4 w' 34 (bl + 1) cts.length zs ∧ Kp (fun k => k = bl + 1) w7 w') (fun ti _ => cts.length - (intOf ti).toNat)
                    case atStart => exact ⟨0, _, by omega, by simp, fun j _ _ h => by omega, rfl, ho7, Kp.refl _ _⟩
                    case round =>
                      clear ho7
                      obtain ⟨q4, zs, hq4, hl, heq, rfl, ho, hk⟩ := hrel
                      have HEQ : Hid (∀ j (h : j < cts.length) (h2 : j < zs.length), j < q4 → zs[j] = cts[j]) := heq
                      have HL : Hid (zs.length = cts.length) := hl
                      clear heq hl
                      by_cases hlt4 : q4 < cts.length
                      · obtain ⟨o, ha, hat⟩ := csl_get hs37 hlt4
                        subst ha
                        obtain ⟨p0, p1, p2, p3⟩ := ct_at (hat.kp hk (fun e => by have := hL3 (by omega); omega))
                        have HS : Hid (Sl Ct.cells 4 _ b3 _ cts) := hs37
                        clear hs37 hat
                        go_wp2_with fail
                        refine wp_region_text [2, 3, 5, 38] Try.mixed (by kernel_rfl) ?_
                        go_wp2_with (refine wpList_store_own rfl 34 _ _ rfl ct_len 34 (bl + 1) cts.length zs q4 cts[q4] _ rfl (by rfl) cts[q4].val rfl rfl (ct_one _) Try.size34 (by exact ho) (by rw [HL.out]; exact hlt4) ?_; intro w8 ho8 hk8)
                        refine ⟨by kernel_rfl, ?_⟩
                        go_wp2_with fail
                        go_roundw
                        case rel =>
                          refine ⟨q4 + 1, zs.set q4 cts[q4], by omega, by rw [List.length_set]; exact HL.out, ?_, by go_num, ho8, hk.drew.trans hk8 (fun _ _ h => h)⟩
                          intro j h1 h2 hji
                          rw [List.getElem_set]
                          by_cases e : q4 = j
                          · subst e; simp
                          · rw [if_neg e]; exact HEQ.out j h1 (by simpa using h2) (by omega)
                        case measure => simp [intOf]; omega
                      · have hzs : zs = cts := List.ext_getElem HL.out (fun j h1 h2 => HEQ.out j h2 h1 (by omega))
                        rw [hzs] at ho
                        clear hzs HEQ HL
                        have hs18 := hs17.kp0 hk (fun h e => by have := hL1 h; omega)
                        have hs28 := hs27.kp0 hk (fun h e => by have := hL2 h; omega)
                        have hlb8 := hk.cell hlb7 (fun e => by omega)
                        have hk08 : Kp No w wr := hk07.trans hk (fun q hq e => by omega)
                        clear hs17 hs27 hlb7 hk07 hs37
                        have hz8 : bl + 1 < wr.heap.size := ho.lt
                        go_upto_region 39 with (first
                          | (at_make; refine wpList_make_empty (f := Ct.cells) rfl _ _ 33 rfl 34 zeroCt.val 40 Try.underlying33 Try.info34 (2 * cts.length) _ rfl rfl (by omega) (by omega) (by omega) ?_; intro w9 ho9 hk9)
                          | (at_builtin; refine wpList_append_room rfl _ _ 33 rfl ct_len ct_one 34 Try.underlying33 Try.size34 _ 0 _ [] rfl rfl (by exact ho9) (bl + 1) _ cts rfl (by exact (ho.kp hk9 (no_not _)).sl ct_len) (by omega) ?_; intro w10 ho10 hk10)
                          | (at_builtin; refine wpList_append_room rfl _ _ 33 rfl ct_len ct_one 34 Try.underlying33 Try.size34 _ cts.length _ cts rfl rfl (by exact ho10) (bl + 1) _ cts rfl (by exact ((ho.kp hk9 (no_not _)).kp hk10 (fun e => by omega)).sl ct_len) (by omega) ?_; intro w11 ho11 hk11))
                        have hkS : ∀ b, b ≠ wr.heap.size → ∀ (S : Nat → Prop), (∀ q, S q → q = wr.heap.size) → ¬ S b := fun b hb S h e => hb (h b e)
                        have hsc11 := ((ho.kp hk9 (no_not _)).kp hk10 (fun e => by omega)).kp hk11 (fun e => by omega)
                        have hlb11 := hk11.cell (hk10.cell (hk9.cell hlb8 (no_not _)) (fun e => by omega)) (fun e => by omega)
                        have hs1_11 := ((hs18.kp hk9 (no_not _)).kp0 hk10 (fun h e => by have := hL1 h; omega)).kp0 hk11 (fun h e => by have := hL1 h; omega)
                        have hs2_11 := ((hs28.kp hk9 (no_not _)).kp0 hk10 (fun h e => by have := hL2 h; omega)).kp0 hk11 (fun h e => by have := hL2 h; omega)
                        have hk0_11 : Kp No w w11 := ((hk08.then hk9).trans hk10 (fun q hq e => by omega)).trans hk11 (fun q hq e => by omega)
                        have hg11 := ho11.lt
                        have hwz : w.heap.size ≤ wr.heap.size := hk08.size
                        clear hkS ho9 ho10 hk9 hk10 hk11 ho hlb8 hs18 hs28 hk08 hk
                        have hzg : bl + 1 < wr.heap.size := hz8
                        clear hz8
                        generalize wr.heap.size = gt at *
                        go_upto_region 42 with (first
                          | (at_make; refine wpList_make_empty (f := icell) rfl _ _ 23 rfl 2 (.int .i64 0) 8 Try.underlying23 Try.info2 (2 * subs.length) _ rfl rfl (by omega) (by omega) (by omega) ?_; intro w12 ho12 hk12)
                          | (at_builtin; refine wpList_append_room rfl _ _ 23 rfl i_len i_one 2 Try.underlying23 Try.size2 _ 0 _ [] rfl rfl (by exact ho12) b26 _ subs rfl (by exact hs2_11.kp hk12 (no_not _)) (by omega) ?_; intro w13 ho13 hk13)
                          | (at_builtin; refine wpList_append_room rfl _ _ 23 rfl i_len i_one 2 Try.underlying23 Try.size2 _ subs.length _ subs rfl rfl (by exact ho13) b26 _ subs rfl (by exact (hs2_11.kp hk12 (no_not _)).kp0 hk13 (fun h e => by have := hL2 h; omega)) (by omega) ?_; intro w14 ho14 hk14))
                        have hsc14 := ((hsc11.kp hk12 (no_not _)).kp hk13 (fun e => by omega)).kp hk14 (fun e => by omega)
                        have htw14 := ((ho11.kp hk12 (no_not _)).kp hk13 (fun e => by omega)).kp hk14 (fun e => by omega)
                        have hlb14 := hk14.cell (hk13.cell (hk12.cell hlb11 (no_not _)) (fun e => by omega)) (fun e => by omega)
                        have hs1_14 := ((hs1_11.kp hk12 (no_not _)).kp0 hk13 (fun h e => by have := hL1 h; omega)).kp0 hk14 (fun h e => by have := hL1 h; omega)
                        have hs2_14 := ((hs2_11.kp hk12 (no_not _)).kp0 hk13 (fun h e => by have := hL2 h; omega)).kp0 hk14 (fun h e => by have := hL2 h; omega)
                        have hk0_14 : Kp No w w14 := ((hk0_11.then hk12).trans hk13 (fun q hq e => by omega)).trans hk14 (fun q hq e => by omega)
                        have hg14 := ho14.lt
                        clear ho12 ho13 hk12 hk13 hk14 ho11 hlb11 hs1_11 hs2_11 hk0_11 hsc11
                        generalize w11.heap.size = gd at *
                        go_wp2_with fail
                        refine (cloneF_calls _ b15 lv _ hs1_14 (by omega)).mono ?_
                        rintro r w15 ⟨v15, b15', rfl, hs15, hb15', hk15⟩
                        have hsc15 := hsc14.kp hk15 (no_not _)
                        have htw15 := htw14.kp hk15 (no_not _)
                        have hdb15 := ho14.kp hk15 (no_not _)
                        have hlb15 := hk15.cell hlb14 (no_not _)
                        have hs2_15 := hs2_14.kp hk15 (no_not _)
                        have hk0_15 := hk0_14.then hk15
                        have hg15 : gd < w15.heap.size := hdb15.lt
                        clear hsc14 htw14 ho14 hlb14 hs2_14 hk0_14 hs1_14 hk15 hg14
                        obtain ⟨a15', c15', rfl, hat⟩ := hs15
                        clear hat
                        have hkmN : (kn : Int) * (subs.length : Int) = ((kn * subs.length : Nat) : Int) := (Int.natCast_mul _ _).symm
                        have HKM : Hid ((kn : Int) * (subs.length : Int) = ((kn * subs.length : Nat) : Int)) := hkmN
                        have hkmb : kn * subs.length ≤ 16384 := by omega
                        clear hkmN
                        go_wp2_with (at_make; refine wpList_make_empty (f := Ct.cells) rfl _ _ 33 rfl 34 zeroCt.val 40 Try.underlying33 Try.info34 (kn * subs.length) _ rfl rfl (by exact HKM.out) (by omega) (by omega) ?_; intro w16 ho16 hk16)
                        have hgs : (w15.alloc (.cells #[.int .i64 st, .slice a15' lv.length c15', .slice (some ⟨gd, 0, none⟩) (subs.length + subs.length) (2 * subs.length)] 32)).heap.size = w15.heap.size + 1 := Array.size_push _
                        have hl2 : (w15.alloc (.cells #[.int .i64 st, .slice a15' lv.length c15', .slice (some ⟨gd, 0, none⟩) (subs.length + subs.length) (2 * subs.length)] 32)).cell? ⟨w15.heap.size, 2, none⟩ = some (.slice (some ⟨gd, 0, none⟩) (subs.length + subs.length) (2 * subs.length)) := by simp
                        rw [hgs] at ho16
                        have hkA := (Kp.refl No w15).alloc (.cells #[.int .i64 st, .slice a15' lv.length c15', .slice (some ⟨gd, 0, none⟩) (subs.length + subs.length) (2 * subs.length)] 32)
                        have hl216 := hk16.cell hl2 (no_not _)
                        have hkB := hkA.then hk16
                        have hsc16 := hsc15.kp hkB (no_not _)
                        have htw16 := htw15.kp hkB (no_not _)
                        have hdb16 := hdb15.kp hkB (no_not _)
                        have hlb16 := hkB.cell hlb15 (no_not _)
                        have hs2_16 := hs2_15.kp hkB (no_not _)
                        have hk0_16 := hk0_15.then hkB
                        have hwz16 : w.heap.size ≤ w15.heap.size := hk0_15.size
                        clear hkB hkA hl2 hgs hk16 hsc15 htw15 hdb15 hlb15 hs2_15 hk0_15
                        generalize w15.heap.size = bl2 at *
                        go_loopw [22, 23, 24] (fun t22 t23 _ w' => ∃ (r : Nat) (ws : List Int), r ≤ kn ∧ Wh subs ws r 0 ∧ t22 = .slice (some ⟨bl2 + 1, 0, none⟩) (ws.map ct0).length (kn * subs.length) ∧ t23 = .int .i64 r ∧ Own Ct.cells 4 w' 34 (bl2 + 1) (kn * subs.length) (ws.map ct0) ∧ Kp (fun k => k = bl2 + 1) w16 w') (fun _ t23 _ _ => kn - (intOf t23).toNat)
                        case atStart => exact ⟨0, [], by omega, ⟨by simp, by simp, by simp⟩, rfl, rfl, ho16, Kp.refl _ _⟩
                        case round =>
                          clear ho16
                          obtain ⟨r, ws, hr, hwh, rfl, rfl, ho, hk⟩ := hrel
                          have HWH : Hid (Wh subs ws r 0) := hwh
                          clear hwh
                          by_cases hrk : r < kn
                          · go_wp2_with fail
                            go_loopw [22, 24] (fun t22 t24 w' => ∃ (i : Nat) (ws : List Int), i ≤ subs.length ∧ Wh subs ws r i ∧ t22 = .slice (some ⟨bl2 + 1, 0, none⟩) (ws.map ct0).length (kn * subs.length) ∧ t24 = .int .i64 i ∧ Own Ct.cells 4 w' 34 (bl2 + 1) (kn * subs.length) (ws.map ct0) ∧ Kp (fun k => k = bl2 + 1) w16 w') (fun _ t24 _ => subs.length - (intOf t24).toNat)
                            case atStart => exact ⟨0, ws, by omega, HWH.out, rfl, rfl, ho, hk⟩
                            case round =>
                              clear ho hk HWH
                              obtain ⟨i6, ws, hi6, hwh, rfl, rfl, ho, hk⟩ := hrel
                              have HWH : Hid (Wh subs ws r i6) := hwh
                              clear hwh
                              by_cases hlt6 : i6 < subs.length
                              · obtain ⟨o, ha, hat⟩ := isl_get hs2_16 hlt6
                                subst ha
                                have hat := hk.cell hat (fun e => by have := hL2 (by omega); omega)
                                have HS : Hid (Sl icell 1 _ b26 _ subs) := hs2_16
                                clear hs2_16
                                have hroom : (ws.map ct0).length + 1 ≤ kn * subs.length := by
                                  rw [List.length_map, HWH.out.len]
                                  have : (r + 1) * subs.length ≤ kn * subs.length := Nat.mul_le_mul_right _ hrk
                                  rw [Nat.add_mul, Nat.one_mul] at this
                                  omega
                                have hwl := ho.lt
                                go_wp2_with (at_builtin; refine wpList_append_room rfl _ _ 33 rfl ct_len ct_one 34 Try.underlying33 Try.size34 _ (ws.map ct0).length _ (ws.map ct0) rfl rfl (by exact ho.kp ((Kp.refl No wr).alloc _) (no_not _)) wr.heap.size _ [ct0 subs[i6]] rfl (by exact csl_one (heap_alloc_new _ _)) (by exact hroom) ?_; intro w17 ho17 hk17)
                                go_roundw
                                case rel =>
                                  refine ⟨i6 + 1, ws ++ [subs[i6]], by omega, HWH.out.step HSB.out hlt6, ?_, by go_num, ?_, (hk.alloc _).trans hk17 (fun q hq e => e)⟩
                                  · rw [List.map_append, List.length_append, List.length_map]; rfl
                                  · rw [List.map_append]; exact ho17
                                case measure => simp [intOf]; omega
                              · go_wp2_with fail
                                go_roundw
                                case rel => exact ⟨r + 1, ws, by omega, HWH.out.next (by omega), rfl, by go_num, ho, hk⟩
                                case measure => simp [intOf]; omega
                          · have hre : r = kn := by omega
                            have HRE : Hid (r = kn) := hre
                            clear hre
                            have hsc := hsc16.kp hk (fun e => by omega)
                            have htw := htw16.kp hk (fun e => by omega)
                            have hdb := hdb16.kp hk (fun e => by omega)
                            have hlb := hk.cell hlb16 (fun e => by omega)
                            have hl2 := hk.cell hl216 (fun e => by omega)
                            have hs2 := hs2_16.kp0 hk (fun h e => by have := hL2 h; omega)
                            have hk0 : Kp No w wr := hk0_16.trans hk (fun q hq e => by omega)
                            clear hsc16 htw16 hdb16 hlb16 hl216 hs2_16 hk0_16 hk
                            have hws : (ws.map ct0).map Ct.cap = ws := by rw [List.map_map]; exact List.map_id' ws
                            have hsW : Sl Ct.cells 4 wr (bl2 + 1) (.slice (some ⟨bl2 + 1, 0, none⟩) ws.length (kn * subs.length)) (ws.map ct0) := by
                              have := ho.sl ct_len
                              rw [List.length_map] at this
                              exact this
                            have hsT : Sl Ct.cells 4 wr gt (.slice (some ⟨gt, 0, none⟩) (cts.length + cts.length) (2 * cts.length)) (cts ++ cts) := by
                              have := htw.sl ct_len
                              rw [List.length_append] at this
                              exact this
                            have hsD : Sl icell 1 wr gd (.slice (some ⟨gd, 0, none⟩) (subs.length + subs.length) (2 * subs.length)) (subs ++ subs) := by
                              have := hdb.sl i_len
                              rw [List.length_append] at this
                              exact this
                            have hsC := hsc.sl ct_len
                            have hbT : ∀ z ∈ (cts ++ cts).map Ct.cap, Bnd z := fun z hz => by
                              rw [List.map_append] at hz
                              rcases List.mem_append.1 hz with h | h <;> exact HCB.out z h
                            have hbD : ∀ z ∈ subs ++ subs, Bnd z := fun z hz => by
                              rcases List.mem_append.1 hz with h | h <;> exact HSB.out z h
                            have hbW : ∀ z ∈ (ws.map ct0).map Ct.cap, Bnd z := by rw [hws]; exact HWH.out.bnd
                            have hwlen : (ws.map ct0).length ≤ 20000 := by
                              have := HWH.out.len
                              rw [List.length_map, this, HRE.out]
                              omega
                            have HWS : Hid ((ws.map ct0).map Ct.cap = ws) := hws
                            clear hws ho htw hdb hsc
                            go_wp2_with fail
                            refine (zzCapacity_calls bl b26 (bl + 1) _ _ subs cts _ hlb hs2 hsC (by omega) (by omega) HSB.out HCB.out).mono ?_
                            rintro r1 w20 ⟨x, rfl, qx, hk20⟩
                            go_wp2_with fail
                            refine (zzCapacity_calls bl b26 gt _ _ subs (cts ++ cts) _ (hk20.cell hlb (no_not _)) (hs2.kp hk20 (no_not _)) (hsT.kp hk20 (no_not _)) (by omega) (by rw [List.length_append]; omega) HSB.out hbT).mono ?_
                            rintro r2 w21 ⟨d, rfl, qd, hk21⟩
                            have hk2021 := hk20.then hk21
                            go_wp2_with fail
                            refine (zzCapacity_calls bl2 gd (bl + 1) _ _ (subs ++ subs) cts _ (hk2021.cell hl2 (no_not _)) (hsD.kp hk2021 (no_not _)) (hsC.kp hk2021 (no_not _)) (by rw [List.length_append]; omega) (by omega) hbD HCB.out).mono ?_
                            rintro r3 w22 ⟨hv, rfl, qh, hk22⟩
                            have hk2022 := hk2021.then hk22
                            go_wp2_with fail
                            refine (zzCapacity_calls bl b26 (bl2 + 1) _ _ subs (ws.map ct0) _ (hk2022.cell hlb (no_not _)) (hs2.kp hk2022 (no_not _)) (hsW.kp hk2022 (no_not _)) (by omega) hwlen HSB.out hbW).mono ?_
                            rintro r4 w23 ⟨ww, rfl, qw, hk23⟩
                            have hkE : Kp No w w23 := (hk0.then hk2022).then hk23
                            clear hk20 hk21 hk22 hk23 hk2021 hk2022 hk0 hsC hsT hsD hsW hlb hl2 hs2 hbT hbD hbW
                            have hS0 := sum_bnd HSB.out
                            have hC0 := sum_bnd HCB.out
                            rw [List.length_map] at hC0
                            obtain ⟨C, hC⟩ : ∃ C : Nat, C = (cts.map Ct.cap).sum.toNat := ⟨_, rfl⟩
                            obtain ⟨S, hS⟩ : ∃ S : Nat, S = subs.sum.toNat := ⟨_, rfl⟩
                            have e1 : ((cts ++ cts).map Ct.cap).sum.toNat = 2 * C := by rw [caps_twice, hC]; omega
                            have e2 : (subs ++ subs).sum.toNat = 2 * S := by rw [List.sum_append, hS]; omega
                            have e3 : ((ws.map ct0).map Ct.cap).sum.toNat = kn * S := by
                              rw [HWS.out, HWH.out.sum, HRE.out, hS]
                              have hp : 0 ≤ subs.sum := by omega
                              obtain ⟨n, hn⟩ : ∃ n : Nat, subs.sum = n := ⟨subs.sum.toNat, by omega⟩
                              rw [hn]
                              simp only [List.take_zero, List.sum_nil, Int.add_zero]
                              rw [← Int.natCast_mul, Int.toNat_natCast, Int.toNat_natCast]
                            rw [← hC, ← hS] at qx
                            rw [e1, ← hS] at qd
                            rw [e2, ← hC] at qh
                            rw [e3, ← hS] at qw
                            have hCz : C = 0 ↔ cts.length = 0 := by omega
                            have hSz : S = 0 ↔ subs.length = 0 := by omega
                            have hCb : 2 * C < 9007199254740992 := by omega
                            have hSb : 2 * S < 9007199254740992 := by omega
                            have hkS : kn * S < 9007199254740992 := by
                              have : kn * S ≤ 64 * 17592186044416 := Nat.mul_le_mul hkn (by omega)
                              omega
                            clear e1 e2 e3 hC0 hS0 hC hS HWS HWH HSB HCB hwlen
                            by_cases hsub : subs.length = 0
                            · have hS0 : S = 0 := hSz.2 hsub
                              subst hS0
                              rw [Nat.mul_zero] at qh qw
                              have hb : ((subs.length : Int) == 0) = true := beq_iff_eq.2 (by omega)
                              have HSUB : Hid (subs.length = 0) := hsub
                              clear hsub
                              have f1 : FloatKind.f64.format.order ww ww = none := quo_nan qw
                              by_cases hcz : cts.length = 0
                              · have hC0 : C = 0 := hCz.2 hcz
                                subst hC0
                                rw [Nat.mul_zero] at qd
                                have f2 : FloatKind.f64.format.order x x = none := quo_nan qx
                                have f3 : FloatKind.f64.format.order d d = none := quo_nan qd
                                have f4 : FloatKind.f64.format.order hv hv = none := quo_nan qh
                                have hc : ((cts.length : Int) == 0) = true := beq_iff_eq.2 (by omega)
                                have HCZ : Hid (cts.length = 0) := hcz
                                clear hcz qx qd qh qw hCz hSz
                                go_wp2_with fail
                                go_ret
                                exact ⟨rfl, hkE⟩
                              · have hC0 : C ≠ 0 := fun e => hcz (hCz.1 e)
                                have f2 : FloatKind.f64.format.order x 9218868437227405311 = some .gt := quo_inf hC0 (by omega) qx
                                have f3 : FloatKind.f64.format.order d 9218868437227405311 = some .gt := quo_inf (by omega) hCb qd
                                have f4 : FloatKind.f64.format.order hv 9218868437227405311 = some .gt := quo_inf hC0 (by omega) qh
                                have hc : ((cts.length : Int) == 0) = false := beq_eq_false_iff_ne.2 (by omega)
                                clear hcz qx qd qh qw hCz hSz
                                go_wp2_with fail
                                go_ret
                                exact ⟨rfl, hkE⟩
                            · have hS0 : S ≠ 0 := fun e => hsub (hSz.1 e)
                              have hb : ((subs.length : Int) == 0) = false := beq_eq_false_iff_ne.2 (by omega)
                              obtain ⟨t1, t2, t3, t4, t5, t6⟩ := cap_fin hS0 hCb hSb hkS hkn qx qd qh qw
                              have r1 := run_fmul (P := Try.prog) (t := 35) t1
                              have r2 := run_fdiv (P := Try.prog) (t := 35) t2
                              unfold two at r1 r2
                              have f3 : FloatKind.f64.format.order d d = some .eq := t3
                              have f4 : FloatKind.f64.format.order hv hv = some .eq := t4
                              have f5 : FloatKind.f64.format.order ww (floatOfInt .f64 (kn : Int)) = some .eq := by
                                have e : floatOfInt .f64 (kn : Int) = fl kn := by
                                  have := fl_int (kn : Int) (by omega)
                                  rw [Int.toNat_natCast] at this
                                  exact this
                                rw [e]; exact t5
                              by_cases hcz : cts.length = 0
                              · have hc : ((cts.length : Int) == 0) = true := beq_iff_eq.2 (by omega)
                                have f6 : (FloatKind.f64.format.order x 0 == some .eq) = true := by
                                  rw [decide_eq_true (hCz.2 hcz)] at t6
                                  exact t6
                                have HCZ : Hid (cts.length = 0) := hcz
                                clear hcz t1 t2 t3 t4 t5 t6 qx qd qh qw hCz hSz hsub
                                go_wp2_with fail
                                go_ret
                                exact ⟨rfl, hkE⟩
                              · have hc : ((cts.length : Int) == 0) = false := beq_eq_false_iff_ne.2 (by omega)
                                have f6 : (FloatKind.f64.format.order x 0 == some .eq) = false := by
                                  rw [decide_eq_false (fun e => hcz (hCz.1 e))] at t6
                                  exact t6
                                clear hcz t1 t2 t3 t4 t5 t6 qx qd qh qw hCz hSz hsub
                                go_wp2_with fail
                                go_ret
                                exact ⟨rfl, hkE⟩
      · have hd1 : decide ((4096 : Int) < (lv.length : Int)) = false := decide_eq_false (by omega)
        have hd2 : decide ((4096 : Int) < (subs.length : Int)) = false := decide_eq_false (by omega)
        have hd3 : decide ((4096 : Int) < (cts.length : Int)) = true := decide_eq_true (by omega)
        go_enter Try.func3, Try.ntmps3
        go_wp2_with fail
        refine (hbytes _ hs30).mono ?_
        rintro r w1 ⟨rb, rfl, hrb, hk1⟩
        cases rb
        · go_wp2_with fail
          go_ret
          exact ⟨rfl, hk1⟩
        go_wp2_with fail
        go_ret
        exact ⟨rfl, hk1⟩
    · have hd1 : decide ((4096 : Int) < (lv.length : Int)) = false := decide_eq_false (by omega)
      have hd2 : decide ((4096 : Int) < (subs.length : Int)) = true := decide_eq_true (by omega)
      go_enter Try.func3, Try.ntmps3
      go_wp2_with fail
      refine (hbytes _ hs30).mono ?_
      rintro r w1 ⟨rb, rfl, hrb, hk1⟩
      cases rb
      · go_wp2_with fail
        go_ret
        exact ⟨rfl, hk1⟩
      go_wp2_with fail
      go_ret
      exact ⟨rfl, hk1⟩
  · have hd1 : decide ((4096 : Int) < (lv.length : Int)) = true := decide_eq_true (by omega)
    go_enter Try.func3, Try.ntmps3
    go_wp2_with fail
    refine (hbytes _ hs30).mono ?_
    rintro r w1 ⟨rb, rfl, hrb, hk1⟩
    cases rb
    · go_wp2_with fail
      go_ret
      exact ⟨rfl, hk1⟩
    go_wp2_with fail
    go_ret
    exact ⟨rfl, hk1⟩
end Go.Proofs.Qxb6003632a
