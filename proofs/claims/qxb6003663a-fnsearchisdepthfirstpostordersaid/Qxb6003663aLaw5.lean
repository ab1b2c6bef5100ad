/-
  The walk of FnSearchIsDepthFirstPostorder.
-/
import Derived.Test.Qxb6003663aZSearch
namespace Go.Proofs.Qxb6003663a
open Go.RowKit

set_option maxHeartbeats 2000000 in
set_option maxRecDepth 100000 in
theorem law5_calls (B : Nat → Prop) (v : Value) (es : List (List Int)) (r : Int) (bk : Bool) (w : World) (hg : Gr B w v es) (hm : es.length ≤ maxLen) (hl : ∀ l ∈ es, l.length ≤ maxLen) (hw : Wide es) (hr1 : -2147483648 ≤ r) (hr2 : r ≤ 2147483647) :
    Calls Try.prog 5 #[v, .int .i32 r, .bool bk] w fun e w' => e = .returned (.bool true) ∧ Kp No w w' := by
  obtain ⟨a, c, rfl⟩ := hg.slice
  have HG : Hid (Gr B w (.slice a es.length c) es) := hg
  have HW : Hid (Wide es) := hw
  have HL : Hid (∀ l ∈ es, l.length ≤ maxLen) := hl
  have HM : Hid (es.length ≤ maxLen) := hm
  clear hg hw hl hm
  go_enter Try.func5, Try.ntmps5
  go_wp2_with fail
  refine (bytes20_calls B _ es r bk _ HG.out HM.out HL.out).mono ?_
  rintro e w1 ⟨⟨rb, rfl, -⟩, hk1⟩
  cases rb
  · go_wp2_with fail
    go_ret
    exact ⟨rfl, hk1⟩
  go_wp2_with fail
  refine (edgesFit_calls B _ es _ (HG.out.kp hk1 (fun _ _ => no_not _)) HM.out HL.out).mono ?_
  rintro e w2 ⟨⟨rb, rfl, hfit⟩, hk2⟩
  have hk02 := hk1.then hk2
  cases rb
  · go_wp2_with fail
    go_ret
    exact ⟨rfl, hk02⟩
  have hf : Fits es := hfit rfl
  have HF : Hid (Fits es) := hf
  have hn := hf.1
  clear hfit hf hk1 hk2
  by_cases hneg : r < 0
  · go_wp2_with fail
    go_ret
    exact ⟨rfl, hk02⟩
  have hneg' : 0 ≤ r := by omega
  by_cases hge : (es.length : Int) ≤ r
  · go_wp2_with fail
    go_ret
    exact ⟨rfl, hk02⟩
  have hge' : r < es.length := by omega
  go_wp2_with fail
  refine (ids_calls B _ es _ (HG.out.kp hk02 (fun _ _ => no_not _)) HF.out HW.out).mono ?_
  rintro e w3 ⟨⟨rb, rfl, hids⟩, hk3⟩
  have hk03 := hk02.then hk3
  cases rb
  · go_wp2_with fail
    go_ret
    exact ⟨rfl, hk03⟩
  have HID : Hid (Ids es) := hids rfl
  clear hids hk3 hk02
  go_wp2_with fail
  refine (copyEdges_calls B _ es _ (HG.out.kp hk03 (fun _ _ => no_not _)) HF.out).mono ?_
  rintro e w4 ⟨v4, rfl, hg4, hk4⟩
  have hk04 := hk03.then hk4
  have HG4 : Hid (Gr (fun b => b < w4.heap.size) w4 v4 es) := hg4.mono (fun b hb _ => hb)
  obtain ⟨a4, c4, rfl⟩ := hg4.slice
  clear hg4 hk4 hk03
  go_wp2_with fail
  refine (zsearch_calls es bk HF.out HID.out _ _ r hneg' hge' _ HG4.out).mono ?_
  rintro e w5 ⟨t, lv, ov, b1, b2, rfl, hd, s1, s2, hk5⟩
  have hk05 := hk04.then hk5
  have HG5 : Hid (Gr (fun b => b < w4.heap.size) w5 (.slice a4 es.length c4) es) := HG4.out.kp hk5 (fun _ _ => no_not _)
  have HSZ : Hid (w4.heap.size ≤ w5.heap.size) := hk5.size
  clear hk5 hk04 HG4
  go_wp2_with (at_make; refine wpList_make_row rfl _ _ 33 rfl ic_len 21 0 _ 4 Try.underlying33 Try.info21 rfl es.length _ rfl rfl rfl (by omega) (by omega) ?_; intro w6 ho6 hk6)
  have hsz := HSZ.out
  refine (dfs_calls es bk HF.out HID.out (fun b => b < w4.heap.size) w5.heap.size (by omega) es.length (St.zero es.length) r w6 _ (.slice none 0 0) (by rw [St.zero_zeros]; exact Nat.le_refl _) (St.zero_at _ _) hneg' hge' (by simp [St.zero]) (by rw [St.zero_zeros]; show 0 + es.length ≤ es.length; omega)
    (HG5.out.kp hk6 (fun _ _ => no_not _)) (fun b hb => by have := hk6.size; omega) ho6 ⟨⟨rfl, .inl ⟨rfl, rfl⟩⟩, fun g h => by cases h⟩).mono ?_
  rintro e w7 ⟨t7, ov7, rfl, hd7, ho7, hor7, hfr7, hk7⟩
  obtain rfl : t = t7 := hd.det hd7
  obtain ⟨z1, z2⟩ := dfs_sizes HID.out hneg' hge' hd
  have hk57 : Kp No w5 w7 := hk6.trans hk7 (fun i hi e => by
    rcases e with e | e
    · omega
    · cases e)
  have hk07 := hk05.then hk57
  have s17 := s1.kp hk57 (no_not _)
  have s27 := s2.kp hk57 (no_not _)
  have q1 := ho7.sl ic_len
  rw [z1] at q1
  obtain ⟨b8, q2, -⟩ := hor7.sl
  clear hk6 hk7 hk57 hk05 s1 s2 ho7 hor7 hfr7 hd hd7 ho6 hsz
  have Z1 : Hid (t.left.length = es.length) := z1
  have Z2 : Hid (t.order.length ≤ es.length) := z2
  clear z1 z2
  go_wp2_with fail
  refine (equal_calls _ _ b1 _ t.left _ s17 q1 (by have := Z1.out; omega)).mono ?_
  rintro e w8 ⟨rfl, hk8⟩
  go_wp2_with fail
  refine (equal_calls _ _ b2 b8 t.order _ (s27.kp hk8 (no_not _)) (q2.kp hk8 (no_not _)) (by have := Z2.out; omega)).mono ?_
  rintro e w9 ⟨rfl, hk9⟩
  go_wp2_with fail
  go_ret
  exact ⟨rfl, (hk07.then hk8).then hk9⟩
end Go.Proofs.Qxb6003663a
