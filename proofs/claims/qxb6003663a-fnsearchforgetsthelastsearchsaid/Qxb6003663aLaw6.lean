/-
  The walk of FnSearchForgetsTheLastSearch.
-/
import Derived.Test.Qxb6003663aTwice
import Derived.Test.Qxb6003663aReachW
namespace Go.Proofs.Qxb6003663a
open Go.RowKit

def cnt (l : List Int) : Nat := l.countP (fun x => decide (0 < x))
theorem cnt_step (l : List Int) (k : Nat) (h : k < l.length) : cnt (l.take (k + 1)) = if 0 < l[k] then cnt (l.take k) + 1 else cnt (l.take k) := by
  unfold cnt
  rw [List.take_succ_eq_append_getElem h, List.countP_append]
  by_cases hc : 0 < l[k] <;> simp [hc]

set_option maxHeartbeats 4000000 in
set_option maxRecDepth 100000 in
theorem law6_calls (B : Nat → Prop) (v : Value) (es : List (List Int)) (r1 r : Int) (bk1 bk : Bool) (w : World) (hg : Gr B w v es) (hm : es.length ≤ maxLen) (hl : ∀ l ∈ es, l.length ≤ maxLen) (hw : Wide es) (hr1 : -2147483648 ≤ r1) (hr2 : r1 ≤ 2147483647) (hr3 : -2147483648 ≤ r) (hr4 : r ≤ 2147483647) :
    Calls Try.prog 6 #[v, .int .i32 r1, .bool bk1, .int .i32 r, .bool bk] w fun e w' => e = .returned (.bool true) ∧ Kp No w w' := by
  obtain ⟨a, c, rfl⟩ := hg.slice
  have HG : Hid (Gr B w (.slice a es.length c) es) := hg
  have HW : Hid (Wide es) := hw
  have HL : Hid (∀ l ∈ es, l.length ≤ maxLen) := hl
  have HM : Hid (es.length ≤ maxLen) := hm
  clear hg hw hl hm
  go_enter Try.func6, Try.ntmps6
  go_wp2_with fail
  refine (bytes24_calls B _ es r1 r bk1 bk _ HG.out HM.out HL.out).mono ?_
  rintro e w1 ⟨⟨rb, rfl, -⟩, hk1⟩
  cases rb
  · go_wp2_with fail
    go_ret
    exact ⟨rfl, hk1⟩
  go_wp2_with fail
  refine (edgesFit_calls B _ es _ (HG.out.kp hk1 (fun _ _ => no_not _)) HM.out HL.out).mono ?_
  rintro e w2 ⟨⟨rb, rfl, hfit⟩, hk2⟩
  have hk02 := hk1.then hk2
  cases rb
  · go_wp2_with fail
    go_ret
    exact ⟨rfl, hk02⟩
  have hf : Fits es := hfit rfl
  have HF : Hid (Fits es) := hf
  have hn := hf.1
  clear hfit hf hk1 hk2
  by_cases hneg1 : r1 < 0
  · go_wp2_with fail
    go_ret
    exact ⟨rfl, hk02⟩
  have hneg1' : 0 ≤ r1 := by omega
  by_cases hge1 : (es.length : Int) ≤ r1
  · go_wp2_with fail
    go_ret
    exact ⟨rfl, hk02⟩
  have hge1' : r1 < es.length := by omega
  by_cases hneg : r < 0
  · go_wp2_with fail
    go_ret
    exact ⟨rfl, hk02⟩
  have hneg' : 0 ≤ r := by omega
  by_cases hge : (es.length : Int) ≤ r
  · go_wp2_with fail
    go_ret
    exact ⟨rfl, hk02⟩
  have hge' : r < es.length := by omega
  go_wp2_with fail
  refine (ids_calls B _ es _ (HG.out.kp hk02 (fun _ _ => no_not _)) HF.out HW.out).mono ?_
  rintro e w3 ⟨⟨rb, rfl, hids⟩, hk3⟩
  have hk03 := hk02.then hk3
  cases rb
  · go_wp2_with fail
    go_ret
    exact ⟨rfl, hk03⟩
  have HID : Hid (Ids es) := hids rfl
  clear hids hk3 hk02
  go_wp2_with fail
  refine (copyEdges_calls B _ es _ (HG.out.kp hk03 (fun _ _ => no_not _)) HF.out).mono ?_
  rintro e w4 ⟨v4, rfl, hg4, hk4⟩
  have hk04 := hk03.then hk4
  have HG4 : Hid (Gr (fun b => b < w4.heap.size) w4 v4 es) := hg4.mono (fun b hb _ => hb)
  obtain ⟨a4, c4, rfl⟩ := hg4.slice
  clear hg4 hk4 hk03
  go_wp2_with fail
  refine (ztwice_calls es bk1 bk HF.out HID.out _ _ r1 r hneg1' hge1' hneg' hge' _ HG4.out).mono ?_
  rintro e w5 ⟨t, lv, ov, b1, b2, rfl, hd, s1, s2, hk5⟩
  have hk05 := hk04.then hk5
  have HG5 : Hid (Gr (fun b => b < w4.heap.size) w5 (.slice a4 es.length c4) es) := HG4.out.kp hk5 (fun _ _ => no_not _)
  have HSZ : Hid (w4.heap.size ≤ w5.heap.size) := hk5.size
  clear hk5 hk04 HG4
  go_wp2_with (at_make; refine wpList_make_row rfl _ _ 33 rfl ic_len 21 0 _ 4 Try.underlying33 Try.info21 rfl es.length _ rfl rfl rfl (by omega) (by omega) ?_; intro w6 ho6 hk6)
  have hsz := HSZ.out
  refine (dfs_calls es bk HF.out HID.out (fun b => b < w4.heap.size) w5.heap.size (by omega) es.length (St.zero es.length) r w6 _ (.slice none 0 0) (by rw [St.zero_zeros]; exact Nat.le_refl _) (St.zero_at _ _) hneg' hge' (by simp [St.zero]) (by rw [St.zero_zeros]; show 0 + es.length ≤ es.length; omega)
    (HG5.out.kp hk6 (fun _ _ => no_not _)) (fun b hb => by have := hk6.size; omega) ho6 ⟨⟨rfl, .inl ⟨rfl, rfl⟩⟩, fun g h => by cases h⟩).mono ?_
  rintro e w7 ⟨t7, ov7, rfl, hd7, ho7, hor7, hfr7, hk7⟩
  obtain rfl : t = t7 := hd.det hd7
  obtain ⟨z1, z2⟩ := dfs_sizes HID.out hneg' hge' hd
  have hk57 : Kp No w5 w7 := hk6.trans hk7 (fun i hi e => by
    rcases e with e | e
    · omega
    · cases e)
  have hk07 := hk05.then hk57
  have s17 := s1.kp hk57 (no_not _)
  have s27 := s2.kp hk57 (no_not _)
  have q1 := ho7.sl ic_len
  rw [z1] at q1
  obtain ⟨b8, q2, -⟩ := hor7.sl
  have HD : Hid (Dfs (adjOf es bk) r (St.zero es.length) t) := hd
  have HG7 : Hid (Gr (fun b => b < w4.heap.size) w7 (.slice a4 es.length c4) es) := HG5.out.kp hk57 (fun _ _ => no_not _)
  have HS7 : Hid (w4.heap.size ≤ w7.heap.size) := Nat.le_trans HSZ.out hk57.size
  clear hk6 hk7 hk57 hk05 s1 s2 ho7 hor7 hfr7 hd hd7 ho6 hsz HG5 HSZ
  have Z1 : Hid (t.left.length = es.length) := z1
  have Z2 : Hid (t.order.length ≤ es.length) := z2
  clear z1 z2
  go_wp2_with fail
  refine (equal_calls _ _ b1 _ t.left _ s17 q1 (by have := Z1.out; omega)).mono ?_
  rintro e w8 ⟨rfl, hk8⟩
  go_wp2_with fail
  refine (equal_calls _ _ b2 b8 t.order _ (s27.kp hk8 (no_not _)) (q2.kp hk8 (no_not _)) (by have := Z2.out; omega)).mono ?_
  rintro e w9 ⟨rfl, hk9⟩
  have hk79 := hk8.then hk9
  have hk09 := hk07.then hk79
  go_wp2_with fail
  refine (reach_calls es HF.out HID.out (fun b => b < w4.heap.size) _ r hneg' hge' _ (HG7.out.kp hk79 (fun _ _ => no_not _)) (fun b hb => by have := HS7.out; have := hk79.size; omega)).mono ?_
  rintro e w10 ⟨seen, b10, v10, rfl, hs10, hre, hk10⟩
  have hk010 := hk09.then hk10
  have hk710 := hk79.then hk10
  have hsl : ∀ i, seen.getD i false = decide (0 < t.left.getD i 0) := fun i => same_seen HID.out hneg' hge' HD.out hre i
  have HSE : Hid (∀ i, seen.getD i false = decide (0 < t.left.getD i 0)) := hsl
  have HSL : Hid (seen.length = es.length) := hre.len
  have hct : cnt t.left = t.order.length := count_order HID.out hneg' hge' HD.out
  have HCT : Hid (cnt t.left = t.order.length) := hct
  obtain ⟨oo, hoo⟩ := last_order HD.out
  have HOO : Hid (t.order = oo ++ [r]) := hoo
  have HA : Hid (Sl ic 1 w10 b1 lv t.left) := s17.kp hk710 (no_not _)
  have HO : Hid (Sl ic 1 w10 b2 ov t.order) := s27.kp hk710 (no_not _)
  have HS10 : Hid (Sl bc 1 w10 b10 v10 seen) := hs10
  obtain ⟨la, lc, rfl, -⟩ := s17
  obtain ⟨oa, oc, rfl, -⟩ := s27
  obtain ⟨sa, sc, rfl, -⟩ := hs10
  clear hk07 hk8 hk9 hk79 hk09 hk10 hk710 hsl hre hct hoo q1 q2
  go_wp2_with fail
  go_loopw [16, 17] (fun t16 t17 w' => ∃ k : Nat, k ≤ es.length ∧ t17 = .int .i64 k ∧ t16 = .int .i64 (cnt (t.left.take k)) ∧ Kp No w10 w') (fun _ t17 _ => es.length - (intOf t17).toNat)
  case atStart => exact ⟨0, by omega, rfl, rfl, Kp.refl _ _⟩
  case round =>
    obtain ⟨k, hk0, rfl, rfl, hk⟩ := hrel
    have hcb : cnt (t.left.take k) ≤ 43690 := by
      have h1 : cnt (t.left.take k) ≤ (t.left.take k).length := List.countP_le_length
      have h2 : (t.left.take k).length ≤ k := by rw [List.length_take]; omega
      omega
    by_cases hlt : k < es.length
    · have hkl : k < t.left.length := by rw [Z1.out]; exact hlt
      have hks : k < seen.length := by rw [HSL.out]; exact hlt
      obtain ⟨o1, rfl, c1⟩ := (HA.out.kp hk (no_not _)).cell (g := fun x => .int .i32 x) (fun _ => rfl) hkl
      obtain ⟨o2, rfl, c2⟩ := (HS10.out.kp hk (no_not _)).cell (g := fun x => .bool x) (fun _ => rfl) hks
      have he : seen[k] = decide (0 < t.left[k]) := by
        have := HSE.out k
        rw [List.getD_eq_getElem?_getD, List.getD_eq_getElem?_getD, List.getElem?_eq_getElem hks, List.getElem?_eq_getElem hkl] at this
        exact this
      rw [he] at c2
      clear he
      have HST : Hid (cnt (t.left.take (k + 1)) = if 0 < t.left[k] then cnt (t.left.take k) + 1 else cnt (t.left.take k)) := cnt_step t.left k hkl
      by_cases hp : 0 < t.left[k]
      · have hpd : decide (0 < t.left[k]) = true := decide_eq_true hp
        rw [hpd] at c2
        go_wp2_with fail
        refine wp_region_text [3, 21, 50] Try.mixed (by kernel_rfl) ?_
        go_wp2_with fail
        refine ⟨by kernel_rfl, ?_⟩
        go_wp2_with fail
        go_roundw
        case rel => exact ⟨k + 1, by omega, by go_num, by rw [HST.out, if_pos hp]; go_num, hk.drew⟩
        case measure => simp [intOf]; omega
      · have hpd : decide (0 < t.left[k]) = false := decide_eq_false hp
        rw [hpd] at c2
        go_wp2_with fail
        refine wp_region_text [3, 21, 50] Try.mixed (by kernel_rfl) ?_
        go_wp2_with fail
        refine ⟨by kernel_rfl, ?_⟩
        go_wp2_with fail
        go_roundw
        case rel => exact ⟨k + 1, by omega, by go_num, by rw [HST.out, if_neg (by omega)], hk.drew⟩
        case measure => simp [intOf]; omega
    · have hce : cnt (t.left.take k) = oo.length + 1 := by
        rw [List.take_of_length_le (by rw [Z1.out]; omega), HCT.out, HOO.out]; simp
      have hol : t.order.length = oo.length + 1 := by rw [HOO.out]; simp
      have hlo : oo.length < t.order.length := by omega
      obtain ⟨o3, rfl, c3⟩ := (HO.out.kp hk (no_not _)).cell (g := fun x => .int .i32 x) (fun _ => rfl) hlo
      have hla : t.order[oo.length] = r := by
        have : t.order[oo.length]? = some r := by rw [HOO.out]; simp
        rw [List.getElem?_eq_getElem hlo] at this
        exact Option.some.inj this
      rw [hla] at c3
      have hob : oo.length + 1 ≤ 43690 := by have := Z2.out; omega
      clear hla
      simp only [hce, hol] at *
      clear hce hol hlo
      have hrr : (r == r) = true := by simp
      go_wp2_with fail
      go_ret
      exact ⟨rfl, hk010.then hk⟩
end Go.Proofs.Qxb6003663a
