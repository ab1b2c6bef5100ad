/-
  The contract of records.Before.
-/
import Derived.Test.Qxb6003633aLeaf
namespace Go.Proofs.Qxb6003633a
open Go.RowKit

/-- What Before gives: the slice itself where every row stays, else a new one. -/
structure Bef (w w' : World) (v v' : Value) (b b' : Nat) (rs : List Rw) (t : Int) : Prop where
  sl : Sl Rw.cells 4 w' b' v' (bef t rs)
  same : rs.length ≤ (bef t rs).length → v' = v ∧ b' = b
  other : (bef t rs).length < rs.length → w.heap.size ≤ b' ∧ ∃ cap, v' = .slice (some ⟨b', 0, none⟩) (bef t rs).length cap ∧ Own Rw.cells 4 w' 37 b' cap (bef t rs)
  kp : Kp No w w'

set_option maxHeartbeats 2000000 in
theorem before_calls (v : Value) (b : Nat) (rs : List Rw) (t : Int) (w : World) (hs : Sl Rw.cells 4 w b v rs) (hn : rs.length ≤ 50000) :
    Calls Try.prog 16 #[v, .int .i64 t] w fun r w' => ∃ v' b', r = .returned v' ∧ Bef w w' v v' b b' rs t := by
  have hs0 := hs
  obtain ⟨a, c, rfl, hat⟩ := hs
  clear hat
  have hlb := bef_len t rs
  go_enter Try.func16, Try.ntmps16
  go_wp2_with fail
  go_loopw [5, 13] (fun tc ti w' => ∃ (i n : Nat), i ≤ rs.length ∧ n = (bef t (rs.take i)).length ∧ tc = .int .i64 n ∧ ti = .int .i64 i ∧ Kp No w w') (fun _ ti _ => rs.length - (intOf ti).toNat)
  case atStart => exact ⟨0, 0, by omega, by simp [bef], rfl, rfl, Kp.refl _ _⟩
  case round =>
    obtain ⟨i, n, hi, hcn, rfl, rfl, hk⟩ := hrel
    have HC : Hid (n = (bef t (rs.take i)).length) := hcn
    have hnb : n ≤ 50000 := by
      have h1 := bef_le t rs i
      omega
    clear hcn
    by_cases hlt : i < rs.length
    · obtain ⟨o, ha, hat⟩ := hs0.get hlt
      subst ha
      obtain ⟨p0, p1, p2, p3⟩ := rw_at (hat.kp hk (no_not _))
      have HS : Hid (Sl Rw.cells 4 w b _ rs) := hs0
      clear hs0 hat
      have HST : Hid (bef t (rs.take (i + 1)) = if rs[i].mon < t then bef t (rs.take i) ++ [rs[i]] else bef t (rs.take i)) := bef_step t rs i hlt
      by_cases hc : rs[i].mon < t
      · have hd : decide (rs[i].mon < t) = true := decide_eq_true hc
        have HCC : Hid (rs[i].mon < t) := hc
        clear hc
        go_wp2_with (refine wpList_store_own rfl 37 _ _ rfl rw_len 37 wr.heap.size 1 [zeroRw] 0 rs[i] _ rfl (by rfl) rs[i].val rfl rfl (rw_one _) Try.size37 (by exact (own_one rw_len).2 (heap_alloc_new _ _)) (by simp) ?_; intro w8 ho9 hk9; obtain ⟨t0, t1, t2, t3⟩ := rw_at (at_row ((own_one rw_len).1 ho9)); simp only [Nat.zero_add] at t0 t1 t2 t3)
        have hk10 : Kp No w w8 := (hk.alloc _).trans hk9 (fun q hq e => by have := hk.size; omega)
        clear hk9 ho9 t0 t1 t2 t3 p0 p1 p2 p3
        go_roundw
        case rel =>
          refine ⟨i + 1, n + 1, by omega, ?_, by go_num, by go_num, hk10⟩
          rw [HST.out, if_pos HCC.out, List.length_append, HC.out]; rfl
        case measure => simp [intOf]; omega
      · have hd : decide (rs[i].mon < t) = false := decide_eq_false hc
        have HCC : Hid (¬ rs[i].mon < t) := hc
        clear hc
        go_wp2_with (refine wpList_store_own rfl 37 _ _ rfl rw_len 37 wr.heap.size 1 [zeroRw] 0 rs[i] _ rfl (by rfl) rs[i].val rfl rfl (rw_one _) Try.size37 (by exact (own_one rw_len).2 (heap_alloc_new _ _)) (by simp) ?_; intro w8 ho9 hk9; obtain ⟨t0, t1, t2, t3⟩ := rw_at (at_row ((own_one rw_len).1 ho9)); simp only [Nat.zero_add] at t0 t1 t2 t3)
        have hk10 : Kp No w w8 := (hk.alloc _).trans hk9 (fun q hq e => by have := hk.size; omega)
        clear hk9 ho9 t0 t1 t2 t3 p0 p1 p2 p3
        go_roundw
        case rel =>
          refine ⟨i + 1, n, by omega, ?_, rfl, by go_num, hk10⟩
          rw [HST.out, if_neg HCC.out, HC.out]
        case measure => simp [intOf]; omega
    · have hie : rs.take i = rs := List.take_of_length_le (by omega)
      have hnn : n = (bef t rs).length := by have := HC.out; rw [hie] at this; exact this
      clear HC hie
      have HN : Hid (n = (bef t rs).length) := hnn
      by_cases hall : n = rs.length
      · have hz : ((n : Int) == (rs.length : Int)) = true := beq_iff_eq.2 (by omega)
        have HA : Hid (n = rs.length) := hall
        clear hall hnn
        go_wp2_with fail
        go_ret
        have e : bef t rs = rs := bef_all t rs (by have := HN.out; have := HA.out; omega)
        refine ⟨_, b, rfl, ⟨?_, fun _ => ⟨rfl, rfl⟩, fun h => ?_, hk⟩⟩
        · rw [e]; exact hs0.kp hk (no_not _)
        · rw [e] at h; omega
      · have hz : ((n : Int) == (rs.length : Int)) = false := beq_eq_false_iff_ne.2 (by omega)
        have hnl : n < rs.length := by omega
        clear hall hnn hlb
        go_wp2_with (at_make; refine wpList_make_empty (f := Rw.cells) rfl _ _ 30 rfl 37 zeroRw.val 32 Try.underlying30 Try.info37 n _ rfl rfl rfl (by omega) (by omega) ?_; intro w4 ho4 hk4)
        have hs4 := (hs0.kp hk (no_not _)).kp hk4 (no_not _)
        have hk04 := hk.then hk4
        have hgl := ho4.lt
        have hlt0 : b < wr.heap.size := (hs0.kp hk (no_not _)).lt (by omega)
        have hwg : w.heap.size ≤ wr.heap.size := hk.size
        clear hs0 hk hk4
        generalize wr.heap.size = g at *
        go_loopw [8, 33] (fun to ti w' => ∃ (i : Nat) (zs : List Rw), i ≤ rs.length ∧ zs = bef t (rs.take i) ∧ to = .slice (some ⟨g, 0, none⟩) zs.length n ∧ ti = .int .i64 i ∧ Own Rw.cells 4 w' 37 g n zs ∧ Kp (fun k => k = g) w4 w') (fun _ ti _ => rs.length - (intOf ti).toNat)
        case atStart => exact ⟨0, [], by omega, by simp [bef], rfl, rfl, ho4, Kp.refl _ _⟩
        case round =>
          clear ho4
          obtain ⟨i2, zs, hi2, hcz, rfl, rfl, ho, hk⟩ := hrel
          have HC : Hid (zs = bef t (rs.take i2)) := hcz
          clear hcz
          by_cases hlt2 : i2 < rs.length
          · obtain ⟨o, ha, hat⟩ := hs4.get hlt2
            subst ha
            obtain ⟨p0, p1, p2, p3⟩ := rw_at (hat.kp hk (fun e => by omega))
            have HS : Hid (Sl Rw.cells 4 w4 b _ rs) := hs4
            clear hs4 hat
            have HST : Hid (bef t (rs.take (i2 + 1)) = if rs[i2].mon < t then bef t (rs.take i2) ++ [rs[i2]] else bef t (rs.take i2)) := bef_step t rs i2 hlt2
            have hol := ho.lt
            by_cases hc : rs[i2].mon < t
            · have hd : decide (rs[i2].mon < t) = true := decide_eq_true hc
              have HCC : Hid (rs[i2].mon < t) := hc
              have hroom : zs.length + 1 ≤ n := by
                have h1 := bef_le t rs (i2 + 1)
                rw [HST.out, if_pos hc, List.length_append, ← HC.out] at h1
                have := HN.out
                simp at h1
                omega
              clear hc
              go_wp2_with (first
                | (refine wpList_store_own rfl 37 _ _ rfl rw_len 37 wr.heap.size 1 [zeroRw] 0 rs[i2] _ rfl (by rfl) rs[i2].val rfl rfl (rw_one _) Try.size37 (by exact (own_one rw_len).2 (heap_alloc_new _ _)) (by simp) ?_; intro w8 ho9 hk9; obtain ⟨t0, t1, t2, t3⟩ := rw_at (at_row ((own_one rw_len).1 ho9)); simp only [Nat.zero_add] at t0 t1 t2 t3; have ho8 := (ho.kp ((Kp.refl No _).alloc (.cells zeroRw.cells.toArray 37)) (no_not _)).kp hk9 (fun e => by omega))
                | (at_builtin; refine wpList_append_room rfl _ _ 30 rfl rw_len rw_one 37 Try.underlying30 Try.size37 _ zs.length _ zs rfl rfl (by exact ho8.kp ((Kp.refl No w8).alloc _) (no_not _)) w8.heap.size _ [rs[i2]] rfl (by exact sl_one (heap_alloc_new _ _)) (by exact hroom) ?_; intro w12 ho12 hk12))
              have hk10 : Kp (fun k => k = g) w4 w8 := (hk.alloc _).trans hk9 (fun q hq e => by have := hk.size; omega)
              have hk13 : Kp (fun k => k = g) w4 w12 := (hk10.alloc _).trans hk12 (fun q hq e => e)
              clear hk9 ho9 ho8 hk12 hk10 t0 t1 t2 t3 p0 p1 p2 p3
              go_roundw
              case rel =>
                refine ⟨i2 + 1, zs ++ [rs[i2]], by omega, ?_, by rw [List.length_append]; rfl, by go_num, ho12, hk13⟩
                rw [HST.out, if_pos HCC.out, HC.out]
              case measure => simp [intOf]; omega
            · have hd : decide (rs[i2].mon < t) = false := decide_eq_false hc
              have HCC : Hid (¬ rs[i2].mon < t) := hc
              clear hc
              go_wp2_with (refine wpList_store_own rfl 37 _ _ rfl rw_len 37 wr.heap.size 1 [zeroRw] 0 rs[i2] _ rfl (by rfl) rs[i2].val rfl rfl (rw_one _) Try.size37 (by exact (own_one rw_len).2 (heap_alloc_new _ _)) (by simp) ?_; intro w8 ho9 hk9; obtain ⟨t0, t1, t2, t3⟩ := rw_at (at_row ((own_one rw_len).1 ho9)); simp only [Nat.zero_add] at t0 t1 t2 t3)
              have ho8 := (ho.kp ((Kp.refl No _).alloc (.cells zeroRw.cells.toArray 37)) (no_not _)).kp hk9 (fun e => by omega)
              have hk10 : Kp (fun k => k = g) w4 w8 := (hk.alloc _).trans hk9 (fun q hq e => by have := hk.size; omega)
              clear hk9 ho9 t0 t1 t2 t3 p0 p1 p2 p3
              go_roundw
              case rel =>
                refine ⟨i2 + 1, zs, by omega, ?_, rfl, by go_num, ho8, hk10⟩
                rw [HST.out, if_neg HCC.out, HC.out]
              case measure => simp [intOf]; omega
          · have hie : rs.take i2 = rs := List.take_of_length_le (by omega)
            have hnn : zs = bef t rs := by have := HC.out; rw [hie] at this; exact this
            clear HC hie
            go_wp2_with fail
            go_ret
            refine ⟨_, g, rfl, ⟨?_, fun h => ?_, fun _ => ⟨hwg, n, by rw [← hnn]; rfl, by rw [← hnn]; exact ho⟩, hk04.trans hk (fun q hq e => by omega)⟩⟩
            · rw [← hnn]; exact ho.sl rw_len
            · have := HN.out; omega
end Go.Proofs.Qxb6003633a
