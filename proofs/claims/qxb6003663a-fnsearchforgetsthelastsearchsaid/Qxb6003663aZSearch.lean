/-
  ZZSearch.
-/
import Derived.Test.Qxb6003663aSearchW
namespace Go.Proofs.Qxb6003663a
open Go.RowKit

theorem kept_zero (n : Nat) : Kept (St.zero n).left (St.zero n).order := by
  intro i _ h
  exact absurd (by simpa [St.at] using St.zero_at n (i : Int)) h

theorem SMem.sl {es : List (List Int)} {bb N gl gp gq : Nat} {f : Fx} {w : World} {s : St} (h : SMem es bb N gl gp gq f w s) :
    Sl ic 1 w gl (slc gl es.length) s.left ∧ w.cell? ⟨bb, 5, none⟩ = some (slc gl es.length) ∧ ∃ ov b, w.cell? ⟨bb, 6, none⟩ = some ov ∧ Sl ic 1 w b ov s.order := by
  obtain ⟨wk, ov, pv, p, z1, z2, hr⟩ := h.rest
  obtain ⟨b, hsl, _⟩ := hr.ord.sl
  refine ⟨?_, ?_, ov, b, hr.box.c6, hsl⟩
  · have := h.left.sl ic_len
    rw [h.len] at this
    exact this
  · rw [hr.box.c5, h.fix.lf]

/-- What a search gives. -/
def Gave (es : List (List Int)) (back : Bool) (r : Int) (w : World) (e : Ending) (w' : World) : Prop :=
  ∃ t lv ov b1 b2, e = .returned (.tuple #[lv, ov]) ∧ Dfs (adjOf es back) r (St.zero es.length) t ∧ Sl ic 1 w' b1 lv t.left ∧ Sl ic 1 w' b2 ov t.order ∧ Kp No w w'

theorem dfs_sizes {es : List (List Int)} {back : Bool} {r : Int} {t : St} (hid : Ids es) (h0 : 0 ≤ r) (hr : r < es.length) (h : Dfs (adjOf es back) r (St.zero es.length) t) : t.left.length = es.length ∧ t.order.length ≤ es.length := by
  have h1 := h.len
  have h2 := Dfs.sum (adjOf_within hid back) (by simp [St.zero]) (by omega) (St.zero_at _ _) h
  rw [St.zero_zeros] at h2
  have h3 : (St.zero es.length).order.length = 0 := rfl
  have h4 : (St.zero es.length).left.length = es.length := by simp [St.zero]
  omega

set_option maxHeartbeats 1000000 in
theorem zsearch_calls (es : List (List Int)) (back : Bool) (hf : Fits es) (hid : Ids es) (B : Nat → Prop) (ev : Value) (r : Int) (h0 : 0 ≤ r) (hr : r < es.length) (w : World) (hg : Gr B w ev es) :
    Calls Try.prog 21 #[ev, .int .i32 r, .bool back] w fun e w' => Gave es back r w e w' := by
  go_enter Try.func21, Try.ntmps21
  go_wp2_with fail
  refine (newBound_calls B ev es _ hg hf).mono ?_
  rintro e w1 ⟨bb, N, gl, gp, gq, f, rfl, n1, n2, n3, n4, n5, hgr, e1, e2, e3, ho1, ho2, ho3, hb, hk1⟩
  have hm : SMem es bb N gl gp gq f w1 (St.zero es.length) := by
    refine ⟨⟨n2, n3, n4, n5, e1, e2, e3⟩, hgr, by simp [St.zero], ho1, 0, _, _, [], _, _, ⟨by simp, by simp, ho2, ho3, ⟨⟨rfl, .inl ⟨rfl, rfl⟩⟩, (fun g h => by cases h)⟩, ⟨rfl, .inl ⟨rfl, rfl⟩⟩, (fun g h => by cases h), hb⟩⟩
  clear hgr e1 e2 e3 ho1 ho2 ho3 hb hg
  go_wp2_with fail
  refine (search_calls es back hf hid bb N gl gp gq f r h0 hr (St.zero es.length) w1 hm (kept_zero _) (fun x hx => by cases hx) (Nat.zero_le _)).mono ?_
  rintro e w2 ⟨rfl, t, hd, hm2, hk2⟩
  have hk02 : Kp No w w2 := hk1.trans hk2 (fun i hi e => by omega)
  obtain ⟨s1, c5, ov, b, c6, s2⟩ := hm2.sl
  obtain ⟨z1, z2⟩ := dfs_sizes hid h0 hr hd
  have hn := hf.1
  clear hm hm2 hk1 hk2
  have HS1 : Hid (Sl ic 1 w2 gl (slc gl es.length) t.left) := s1
  have HS2 : Hid (Sl ic 1 w2 b ov t.order) := s2
  have HZ : Hid (t.left.length = es.length ∧ t.order.length ≤ es.length) := ⟨z1, z2⟩
  clear s1 s2 z1 z2
  go_wp2_with fail
  refine wp_region_two [3, 21, 50] 4 8 [0, 1, 2, 3, 5, 6, 7, 8, 4, 9, 10, 11] Try.mixed (by kernel_rfl) ?_ ?_
  · go_wp2_with fail
    refine (copyInt32s_calls _ gl t.left _ (by exact HS1.out) (by have := HZ.out.1; omega)).mono ?_
    rintro e w3 ⟨v3, b3, rfl, hs3, -, hk3⟩
    have c6' := hk3.undrew.cell c6 (no_not _)
    go_wp2_with fail
    refine (int32s_calls _ b t.order _ (HS2.out.kp hk3.undrew (no_not _)) (by have := HZ.out.2; omega)).mono ?_
    rintro e w4 ⟨v4, b4, rfl, hs4, -, hk4⟩
    go_wp2_with fail
    refine ⟨by kernel_rfl, ?_⟩
    go_wp2_with fail
    go_ret2
    exact ⟨t, v3, v4, b3, b4, rfl, hd, hs3.kp hk4 (no_not _), hs4, (hk02.then hk3.undrew).then hk4⟩
  · simp only [pick, List.map_cons, List.map_nil, nth]
    go_wp2_with fail
    refine (copyInt32s_calls _ gl t.left _ (by exact HS1.out) (by have := HZ.out.1; omega)).mono ?_
    rintro e w3 ⟨v3, b3, rfl, hs3, -, hk3⟩
    go_wp2_with fail
    refine (int32s_calls _ b t.order _ (HS2.out.kp hk3.undrew (no_not _)) (by have := HZ.out.2; omega)).mono ?_
    rintro e w4 ⟨v4, b4, rfl, hs4, -, hk4⟩
    go_wp2_with fail
    refine ⟨by kernel_rfl, ?_⟩
    go_wp2_with fail
    go_ret2
    exact ⟨t, v3, v4, b3, b4, rfl, hd, hs3.kp hk4 (no_not _), hs4, (hk02.then hk3.undrew).then hk4⟩
end Go.Proofs.Qxb6003663a
