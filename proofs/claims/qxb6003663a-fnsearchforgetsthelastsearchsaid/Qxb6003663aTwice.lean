/-
  ZZSearchTwice.
-/
import Derived.Test.Qxb6003663aZSearch
import Derived.Test.Qxb6003663aPlain5
namespace Go.Proofs.Qxb6003663a
open Go.RowKit

set_option maxHeartbeats 1000000 in
theorem ztwice_calls (es : List (List Int)) (bk1 bk2 : Bool) (hf : Fits es) (hid : Ids es) (B : Nat → Prop) (ev : Value) (r1 r2 : Int) (h10 : 0 ≤ r1) (h1n : r1 < es.length) (h0 : 0 ≤ r2) (hr : r2 < es.length) (w : World) (hg : Gr B w ev es) :
    Calls Try.prog 25 #[ev, .int .i32 r1, .bool bk1, .int .i32 r2, .bool bk2] w fun e w' => Gave es bk2 r2 w e w' := by
  go_enter Try.func25, Try.ntmps25
  go_wp2_with fail
  refine (newBound_calls B ev es _ hg hf).mono ?_
  rintro e w1 ⟨bb, N, gl, gp, gq, f, rfl, n1, n2, n3, n4, n5, hgr, e1, e2, e3, ho1, ho2, ho3, hb, hk1⟩
  have hm : SMem es bb N gl gp gq f w1 (St.zero es.length) := by
    refine ⟨⟨n2, n3, n4, n5, e1, e2, e3⟩, hgr, by simp [St.zero], ho1, 0, _, _, [], _, _, ⟨by simp, by simp, ho2, ho3, ⟨⟨rfl, .inl ⟨rfl, rfl⟩⟩, (fun g h => by cases h)⟩, ⟨rfl, .inl ⟨rfl, rfl⟩⟩, (fun g h => by cases h), hb⟩⟩
  clear hgr e1 e2 e3 ho1 ho2 ho3 hb hg
  go_wp2_with fail
  refine (search_calls es bk1 hf hid bb N gl gp gq f r1 h10 h1n (St.zero es.length) w1 hm (kept_zero _) (fun x hx => by cases hx) (Nat.zero_le _)).mono ?_
  rintro e w10 ⟨rfl, t1, hd1, hm10, hk10⟩
  have hz1 := dfs_sizes hid h10 h1n hd1
  have hra : ∀ x ∈ t1.order, 0 ≤ x ∧ x < (es.length : Int) := Dfs.range (adjOf_within hid bk1) ⟨h10, h1n⟩ (fun x hx => by cases hx) hd1
  have hke : Kept t1.left t1.order := kept_of_dfs hid h10 hd1
  have hk010 : Kp No w w10 := hk1.trans hk10 (fun i hi e => by omega)
  have HZ1 : Hid (t1.left.length = es.length ∧ t1.order.length ≤ es.length) := hz1
  have HRA : Hid (∀ x ∈ t1.order, 0 ≤ x ∧ x < (es.length : Int)) := hra
  have HKE : Hid (Kept t1.left t1.order) := hke
  clear hm hk1 hk10 hd1 hz1 hra hke
  go_wp2_with fail
  refine (search_calls es bk2 hf hid bb N gl gp gq f r2 h0 hr t1 w10 hm10 HKE.out HRA.out HZ1.out.2).mono ?_
  rintro e w2 ⟨rfl, t, hd, hm2, hk2⟩
  have hk02 : Kp No w w2 := hk010.trans hk2 (fun i hi e => by omega)
  obtain ⟨s1, c5, ov, b, c6, s2⟩ := hm2.sl
  obtain ⟨z1, z2⟩ := dfs_sizes hid h0 hr hd
  have hn := hf.1
  clear hm10 hm2 hk010 hk2 HZ1 HRA HKE
  have HS1 : Hid (Sl ic 1 w2 gl (slc gl es.length) t.left) := s1
  have HS2 : Hid (Sl ic 1 w2 b ov t.order) := s2
  have HZ : Hid (t.left.length = es.length ∧ t.order.length ≤ es.length) := ⟨z1, z2⟩
  clear s1 s2 z1 z2
  go_wp2_with fail
  refine wp_region_two [3, 21, 50] 4 8 [0, 1, 2, 3, 5, 6, 7, 8, 4, 9, 10, 11] Try.mixed (by kernel_rfl) ?_ ?_
  · go_wp2_with fail
    refine (copyInt32s_calls _ gl t.left _ (by exact HS1.out) (by have := HZ.out.1; omega)).mono ?_
    rintro e w3 ⟨v3, b3, rfl, hs3, -, hk3⟩
    have c6' := hk3.undrew.cell c6 (no_not _)
    go_wp2_with fail
    refine (int32s_calls _ b t.order _ (HS2.out.kp hk3.undrew (no_not _)) (by have := HZ.out.2; omega)).mono ?_
    rintro e w4 ⟨v4, b4, rfl, hs4, -, hk4⟩
    go_wp2_with fail
    refine ⟨by kernel_rfl, ?_⟩
    go_wp2_with fail
    go_ret2
    exact ⟨t, v3, v4, b3, b4, rfl, hd, hs3.kp hk4 (no_not _), hs4, (hk02.then hk3.undrew).then hk4⟩
  · simp only [pick, List.map_cons, List.map_nil, nth]
    go_wp2_with fail
    refine (copyInt32s_calls _ gl t.left _ (by exact HS1.out) (by have := HZ.out.1; omega)).mono ?_
    rintro e w3 ⟨v3, b3, rfl, hs3, -, hk3⟩
    go_wp2_with fail
    refine (int32s_calls _ b t.order _ (HS2.out.kp hk3.undrew (no_not _)) (by have := HZ.out.2; omega)).mono ?_
    rintro e w4 ⟨v4, b4, rfl, hs4, -, hk4⟩
    go_wp2_with fail
    refine ⟨by kernel_rfl, ?_⟩
    go_wp2_with fail
    go_ret2
    exact ⟨t, v3, v4, b3, b4, rfl, hd, hs3.kp hk4 (no_not _), hs4, (hk02.then hk3.undrew).then hk4⟩
end Go.Proofs.Qxb6003663a
