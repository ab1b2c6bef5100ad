/-
  search.
-/
import Derived.Test.Qxb6003663aSLoop2
namespace Go.Proofs.Qxb6003663a
open Go.RowKit

structure SRest (es : List (List Int)) (bb N gl gp gq : Nat) (f : Fx) (w : World) (order : List Int) (wk : Int) (ov pv : Value) (p : List (Int × Nat)) (z1 z2 : List Int) : Prop where
  l1 : z1.length = es.length
  l2 : z2.length = es.length
  o1 : Own nc 1 w 3 gp es.length z1
  o2 : Own nc 1 w 3 gq es.length z2
  ord : Orw w 50 ov order (AA N gl gp gq)
  path : w.ownsRow 0 65 2 pv p.length (p.flatMap cc)
  apart : ∀ g, pv.ownBlock = some g → g < w.heap.size ∧ ¬ AA N gl gp gq g ∧ ov.ownBlock ≠ some g
  box : Bx w bb f wk ov pv

structure SMem (es : List (List Int)) (bb N gl gp gq : Nat) (f : Fx) (w : World) (s : St) : Prop where
  fix : SFix es bb N gl gp gq f
  gr : Gr (fun b => bb < b ∧ b < N) w f.ev es
  len : s.left.length = es.length
  left : Own ic 1 w 21 gl es.length s.left
  rest : ∃ (wk : Int) (ov pv : Value) (p : List (Int × Nat)) (z1 z2 : List Int), SRest es bb N gl gp gq f w s.order wk ov pv p z1 z2

/-- left is not zero only where the order says so. -/
def Kept (left order : List Int) : Prop := ∀ i : Nat, i < left.length → left.getD i 0 ≠ 0 → (i : Int) ∈ order

theorem Kept.reset {left : List Int} {x : Int} {order : List Int} (h : Kept left (x :: order)) : Kept (left.set x.toNat 0) order := by
  intro i hi h0
  rw [getD_set] at h0
  rw [List.length_set] at hi
  by_cases e : x.toNat = i ∧ x.toNat < left.length
  · rw [if_pos e] at h0; exact absurd rfl h0
  · rw [if_neg e] at h0
    rcases List.mem_cons.1 (h i hi h0) with h1 | h1
    · exact absurd ⟨by omega, by omega⟩ e
    · exact h1
theorem Kept.zero {left : List Int} (h : Kept left []) : left = List.replicate left.length 0 := by
  apply List.ext_getElem
  · simp
  · intro i h1 h2
    rw [List.getElem_replicate]
    apply Classical.byContradiction
    intro h3
    have := h i h1 (by rw [List.getD_eq_getElem?_getD, List.getElem?_eq_getElem h1]; exact h3)
    simp at this

set_option maxHeartbeats 4000000 in
set_option maxRecDepth 1000000 in
theorem search_calls (es : List (List Int)) (back : Bool) (hf : Fits es) (hid : Ids es) (bb N gl gp gq : Nat) (f : Fx) (r : Int) (hr0 : 0 ≤ r) (hrn : r < es.length) (s : St) (w : World) (hm : SMem es bb N gl gp gq f w s)
    (hke : Kept s.left s.order) (hor : ∀ x ∈ s.order, 0 ≤ x ∧ x < (es.length : Int)) (hol : s.order.length ≤ es.length) :
    Calls Try.prog 36 #[.pointer (some ⟨bb, 0, none⟩), .int .i32 r, .bool back] w fun e w' => e = .returned (.tuple #[]) ∧ ∃ t, Dfs (adjOf es back) r (St.zero es.length) t ∧ SMem es bb N gl gp gq f w' t ∧ Kp (fun j => bb ≤ j) w w' := by
  have HWI : Hid (Within (adjOf es back) es.length) := adjOf_within hid back
  have hn := hf.1
  have HF : Hid (Fits es) := hf
  have HID : Hid (Ids es) := hid
  clear hf hid
  obtain ⟨⟨f1, f2, f3, f4, f5, f6, f7⟩, hgr, hlen, hleft, wk, ov, pv, p, z1, z2, ⟨l1, l2, o1, o2, hord, hpath, hpa, hbox⟩⟩ := hm
  have HFX : Hid (SFix es bb N gl gp gq f) := ⟨f1, f2, f3, f4, f5, f6, f7⟩
  have HGR : Hid (Gr (fun b => bb < b ∧ b < N) w f.ev es) := hgr
  have HORD : Hid (Orw w 50 ov s.order (AA N gl gp gq)) := hord
  have HPA : Hid (∀ g, pv.ownBlock = some g → g < w.heap.size ∧ ¬ AA N gl gp gq g ∧ ov.ownBlock ≠ some g) := hpa
  have HPATH : Hid (w.ownsRow 0 65 2 pv p.length (p.flatMap cc)) := hpath
  have HOR : Hid (∀ x ∈ s.order, 0 ≤ x ∧ x < (es.length : Int)) := hor
  have HKE : Hid (Kept s.left s.order) := hke
  have HLEN : Hid (s.left.length = es.length) := hlen
  have HL1 : Hid (z1.length = es.length) := l1
  have HL2 : Hid (z2.length = es.length) := l2
  obtain ⟨bo, hsl, hbo⟩ := hord.sl
  have HBO : Hid (0 < s.order.length → ov.ownBlock = some bo) := hbo
  have HSL : Hid (Sl ic 1 w bo ov s.order) := hsl
  obtain ⟨oa, oc, rfl, -⟩ := hsl
  clear hgr hpa hpath hor hke hlen l1 l2 hbo
  have c6 := hbox.c6
  obtain ⟨x, rfl⟩ := Int.eq_ofNat_of_zero_le hr0
  have hx : x < es.length := by omega
  clear hr0 hrn
  clear f5 f6 f7 hord
  go_enter Try.func36, Try.ntmps36
  go_wp2_with fail
  clear c6
  go_loopw [17] (fun t17 w' => ∃ (k : Nat) (left y1 y2 : List Int), k ≤ s.order.length ∧ t17 = .int .i64 k ∧ Hid (Kept left (s.order.drop k)) ∧ Hid (left.length = es.length) ∧ Hid (y1.length = es.length) ∧ Hid (y2.length = es.length) ∧
    Own ic 1 w' 21 gl es.length left ∧ Own nc 1 w' 3 gp es.length y1 ∧ Own nc 1 w' 3 gq es.length y2 ∧ Bx w' bb f wk (.slice oa s.order.length oc) pv ∧ Kp (fun j => j = gl ∨ j = gp ∨ j = gq) w w') (fun t17 _ => s.order.length - (intOf t17).toNat)
  case atStart => exact ⟨0, s.left, z1, z2, by omega, rfl, HKE.out, HLEN, HL1, HL2, hleft, o1, o2, hbox, Kp.refl _ _⟩
  case round =>
    clear hleft o1 o2 hbox HKE HLEN HL1 HL2
    obtain ⟨k, left, y1, y2, hk0, rfl, HKE, HLEN, HL1, HL2, hleft, o1, o2, hbox, hk⟩ := hrel
    have HSL' : Hid (Sl ic 1 wr bo (.slice oa s.order.length oc) s.order) := HSL.out.kp0 hk (fun h e => by
      have := (HORD.out.apart bo (HBO.out h)).2
      rcases e with e | e | e
      · exact this (.inr (.inl e))
      · exact this (.inr (.inr (.inl e)))
      · exact this (.inr (.inr (.inr e))))
    by_cases hlt : k < s.order.length
    · obtain ⟨oo, rfl, hcell⟩ := HSL'.out.cell (g := fun x => .int .i32 x) (fun _ => rfl) hlt
      have hin := HOR.out s.order[k] (List.getElem_mem hlt)
      have HD : Hid (s.order.drop k = s.order[k] :: s.order.drop (k + 1)) := List.drop_eq_getElem_cons hlt
      generalize s.order[k] = y0 at hcell hin HD
      obtain ⟨z, rfl⟩ := Int.eq_ofNat_of_zero_le hin.1
      have hz0 : z < es.length := by have := hin.2; omega
      clear hin HSL'
      have c5 := hbox.c5
      have c8 := hbox.c8
      have c9 := hbox.c9
      rw [HFX.out.lf] at c5
      rw [HFX.out.ps] at c8
      rw [HFX.out.ln] at c9
      simp only [slc] at c5 c8 c9
      have q1 : z < left.length := by rw [HLEN.out]; exact hz0
      have q2 : z < y1.length := by rw [HL1.out]; exact hz0
      have q3 : z < y2.length := by rw [HL2.out]; exact hz0
      go_wp2_with fail
      refine wp_region_text [3, 21, 50] Try.mixed (by kernel_rfl) ?_
      have hleft : Own ic 1 wr.drew 21 gl es.length left := hleft
      have o1 : Own nc 1 wr.drew 3 gp es.length y1 := o1
      have o2 : Own nc 1 wr.drew 3 gq es.length y2 := o2
      go_wp2_with (first
        | (refine wpList_store_own rfl 21 _ _ rfl ic_len 21 gl es.length left z 0 _ rfl (by simp) _ rfl rfl (ic_one _) Try.size21 (by exact hleft) (by exact q1) ?_; intro w1 u1 m1; have o1' := o1.kp m1 (fun e => by omega); have o2' := o2.kp m1 (fun e => by omega))
        | (refine wpList_store_own rfl 3 _ _ rfl nc_len 3 gp es.length y1 z 0 _ rfl (by simp) _ rfl rfl (nc_one _) Try.size3 (by exact o1') (by exact q2) ?_; intro w2 u2 m2; have o2'' := o2'.kp m2 (fun e => by omega))
        | (refine wpList_store_own rfl 3 _ _ rfl nc_len 3 gq es.length y2 z 0 _ rfl (by simp) _ rfl rfl (nc_one _) Try.size3 (by exact o2'') (by exact q3) ?_; intro w3 u3 m3))
      refine ⟨by kernel_rfl, ?_⟩
      go_wp2_with fail
      go_roundw
      case rel =>
        have hb3 := ((hbox.kp ((Kp.refl No wr).drew.no _) (no_not _) |>.kp m1 (fun e => by omega)).kp m2 (fun e => by omega)).kp m3 (fun e => by omega)
        exact ⟨k + 1, left.set z 0, y1.set z 0, y2.set z 0, by omega, by go_num, (by have h := HKE.out; rw [HD.out] at h; exact h.reset), (by rw [List.length_set]; exact HLEN.out), (by rw [List.length_set]; exact HL1.out), (by rw [List.length_set]; exact HL2.out),
          (u1.kp m2 (fun e => by omega)).kp m3 (fun e => by omega), u2.kp m3 (fun e => by omega), u3, hb3,
          ((hk.drew.trans m1 (fun i _ e => .inl e)).trans m2 (fun i _ e => .inr (.inl e))).trans m3 (fun i _ e => .inr (.inr e))⟩
      case measure => simp [intOf]; omega
    · have hkk : k = s.order.length := by omega
      have hzl : left = List.replicate es.length 0 := by
        have h := HKE.out
        rw [List.drop_eq_nil_of_le (by omega)] at h
        rw [← HLEN.out]; exact h.zero
      subst hzl
      clear HKE HLEN HSL' hkk
      have HORD2 : Hid (Orw wr 50 (.slice oa s.order.length oc) s.order (AA N gl gp gq)) := HORD.out.kp hk (fun g hg e => by
        have := (HORD.out.apart g hg).2
        rcases e with e | e | e
        · exact this (.inr (.inl e))
        · exact this (.inr (.inr (.inl e)))
        · exact this (.inr (.inr (.inr e))))
      have HPATH2 : Hid (wr.ownsRow 0 65 2 pv p.length (p.flatMap cc)) := hk.owns HPATH.out (fun g hg e => by
        have := (HPA.out g hg).2.1
        rcases e with e | e | e
        · exact this (.inr (.inl e))
        · exact this (.inr (.inr (.inl e)))
        · exact this (.inr (.inr (.inr e))))
      have HPA2 : Hid (∀ g, pv.ownBlock = some g → g < wr.heap.size ∧ ¬ AA N gl gp gq g ∧ (Value.slice oa s.order.length oc).ownBlock ≠ some g) := fun g hg => ⟨Nat.lt_of_lt_of_le (HPA.out g hg).1 hk.size, (HPA.out g hg).2⟩
      have HGR2 : Hid (Gr (fun b => bb < b ∧ b < N) wr f.ev es) := HGR.out.kp hk (fun b hb e => by omega)
      have hk0 : Kp (fun j => bb ≤ j) w wr := hk.mono (fun i _ e => by omega)
      clear HORD HPATH HPA HGR hk HSL HBO HOR
      have c6 := hbox.c6
      have hool : s.order.length ≤ oc := by
        rcases HORD2.out.owns.2 with ⟨h, h0⟩ | ⟨g, cap, cur, h, hb, hg, h1, _⟩
        · omega
        · simp only [Value.slice.injEq] at h; omega
      have HB0 : Hid (Bx wr bb f wk (.slice oa s.order.length oc) pv) := hbox
      go_upto_region 6 with (refine wpList_store_own rfl 56 _ _ rfl vc_len 59 bb 14 (f.row wk (.slice oa s.order.length oc) pv) 6 (.slice oa 0 oc) _ rfl (by rfl) _ rfl rfl (slice_one _ _ _) Try.size56 (by exact HB0.out) (by exact (by decide : 6 < 14)) ?_; intro w1 hb1 hk1)
      have hbox1 : Bx w1 bb f wk (.slice oa 0 oc) pv := hb1
      have HORD3 : Hid (Orw w1 50 (.slice oa 0 oc) [] (AA N gl gp gq)) := HORD2.out.empty.kp hk1 (fun g hg e => by
        have := AA.ne (HORD2.out.empty.apart g hg).2
        omega)
      have HPATH3 : Hid (w1.ownsRow 0 65 2 pv p.length (p.flatMap cc)) := hk1.owns HPATH2.out (fun g hg e => by
        have := AA.ne (HPA2.out g hg).2.1
        omega)
      have HPA3 : Hid (∀ g, pv.ownBlock = some g → g < w1.heap.size ∧ ¬ AA N gl gp gq g ∧ (Value.slice oa 0 oc).ownBlock ≠ some g) := fun g hg => ⟨Nat.lt_of_lt_of_le (HPA2.out g hg).1 hk1.size, (HPA2.out g hg).2.1, by rw [own_block oa 0 s.order.length oc oc]; exact (HPA2.out g hg).2.2⟩
      have HGR3 : Hid (Gr (fun b => bb < b ∧ b < N) w1 f.ev es) := HGR2.out.kp hk1 (fun b hb e => by omega)
      have hleft1 := hleft.kp hk1 (fun e => by omega)
      have o11 := o1.kp hk1 (fun e => by omega)
      have o21 := o2.kp hk1 (fun e => by omega)
      have hk01 : Kp (fun j => bb ≤ j) w w1 := hk0.trans hk1 (fun i _ e => by omega)
      clear HORD2 HPATH2 HPA2 HGR2 hleft o1 o2 hk0 hbox HB0 hb1 hk1 c6 hool
      have c5 := hbox1.c5
      rw [HFX.out.lf] at c5
      simp only [slc] at c5
      go_upto_region 7 with (refine wpList_store_own rfl 21 _ _ rfl ic_len 21 gl es.length (List.replicate es.length 0) x (-1) _ rfl (by simp) _ rfl rfl (ic_one _) Try.size21 (by exact hleft1) (by simpa using hx) ?_; intro w2 hleft2 hk2)
      have hbox2 := hbox1.kp hk2 (fun e => by omega)
      have HORD4 : Hid (Orw w2 50 (.slice oa 0 oc) [] (AA N gl gp gq)) := HORD3.out.kp hk2 (fun g hg e => by
        have := AA.ne (HORD3.out.apart g hg).2
        omega)
      have HPATH4 : Hid (w2.ownsRow 0 65 2 pv p.length (p.flatMap cc)) := hk2.owns HPATH3.out (fun g hg e => by
        have := AA.ne (HPA3.out g hg).2.1
        omega)
      have HPA4 : Hid (∀ g, pv.ownBlock = some g → g < w2.heap.size ∧ ¬ AA N gl gp gq g ∧ (Value.slice oa 0 oc).ownBlock ≠ some g) := fun g hg => ⟨Nat.lt_of_lt_of_le (HPA3.out g hg).1 hk2.size, (HPA3.out g hg).2⟩
      have HGR4 : Hid (Gr (fun b => bb < b ∧ b < N) w2 f.ev es) := HGR3.out.kp hk2 (fun b hb e => by omega)
      have o12 := o11.kp hk2 (fun e => by omega)
      have o22 := o21.kp hk2 (fun e => by omega)
      have hk02 : Kp (fun j => bb ≤ j) w w2 := hk01.trans hk2 (fun i _ e => by omega)
      clear HORD3 HPATH3 HPA3 HGR3 hleft1 o11 o21 hk01 hbox1 hk2 c5
      obtain ⟨pa, pn, pc, rfl, hpc⟩ : ∃ pa pn pc, pv = .slice pa pn pc ∧ pn ≤ pc := by
        rcases HPATH4.out.2 with ⟨h, h0⟩ | ⟨g, cap, cur, h, hb, hg, h1, _⟩
        · exact ⟨none, 0, 0, h, by omega⟩
        · exact ⟨_, _, _, h, h1⟩
      have c7 := hbox2.c7
      have HPE : Hid (w2.ownsRow 0 65 2 (.slice pa 0 pc) ([] : List (Int × Nat)).length (([] : List (Int × Nat)).flatMap cc)) := path_empty HPATH4.out
      have HPA5 : Hid (∀ g, (Value.slice pa 0 pc).ownBlock = some g → g < w2.heap.size ∧ ¬ AA N gl gp gq g ∧ (Value.slice oa 0 oc).ownBlock ≠ some g) := fun g hg => HPA4.out g (by rw [own_block pa pn 0 pc pc]; exact hg)
      clear HPATH4 HPA4
      go_upto_region 8 with (at_builtin; refine wpList_append_row rfl _ _ 57 rfl cc_len (by omega) cc_one 65 (.agg #[.int .i32 0, .int .i64 0]) 16 Try.underlying57 Try.info65 rfl (.slice pa 0 pc) [] rfl (by exact ((Kp.refl No w2).alloc _).owns HPE.out (fun _ _ => no_not _)) _ 0 _ _ [((x : Int), 0)] rfl rfl ?hat (by simp) (by simp) (by omega) ?_)
      case hat => exact at_row (l := cc ((x : Int), 0)) (heap_alloc_new _ _)
      intro gk cap w3 ho3 hk3 hg3
      have hkB : Kp (fun j => (Value.slice pa 0 pc).ownBlock = some j) w2 w3 := ((Kp.refl _ w2).alloc _).trans hk3 (fun _ _ h => h)
      have hgk : (Value.slice pa 0 pc).ownBlock = some gk ∨ w2.heap.size ≤ gk := hg3.imp id (fun h => by omega)
      have hA : ∀ g, (Value.slice pa 0 pc).ownBlock = some g → N ≤ g ∧ g ≠ gl ∧ g ≠ gp ∧ g ≠ gq := fun g hg => AA.ne (HPA5.out g hg).2.1
      have hbox3 := hbox2.kp hkB (fun e => by have := hA _ e; omega)
      have HB3 : Hid (Bx w3 bb f wk (.slice oa 0 oc) (.slice pa pn pc)) := hbox3
      have HHA : Hid (∀ g, (Value.slice pa 0 pc).ownBlock = some g → N ≤ g ∧ g ≠ gl ∧ g ≠ gp ∧ g ≠ gq) := hA
      have HGK : Hid ((Value.slice pa 0 pc).ownBlock = some gk ∨ w2.heap.size ≤ gk) := hgk
      clear hA hgk hbox3 hk3 hg3 c7
      go_upto_region 8 with (refine wpList_store_own rfl 57 _ _ rfl vc_len 59 bb 14 (f.row wk (.slice oa 0 oc) (.slice pa pn pc)) 7 (.slice (some ⟨gk, 0, none⟩) 1 cap) _ rfl (by rfl) _ rfl rfl (slice_one _ _ _) Try.size57 (by exact HB3.out) (by exact (by decide : 7 < 14)) ?_; intro w4 hb4 hk4)
      have hbox4 : Bx w4 bb f wk (.slice oa 0 oc) (.slice (some ⟨gk, 0, none⟩) 1 cap) := hb4
      have hq2 := o22.lt
      have hNk : ¬ AA N gl gp gq gk := by
        rcases HGK.out with h | h
        · exact (HPA5.out gk h).2.1
        · rintro (e | e | e | e) <;> omega
      have hNk' := AA.ne hNk
      have hneo : (Value.slice oa 0 oc).ownBlock ≠ some gk := by
        rcases HGK.out with h | h
        · exact (HPA5.out gk h).2.2
        · intro e
          have := (HORD4.out.apart gk e).1
          omega
      have hsi : SInv es bb N gl gp gq f w4 ((St.zero es.length).enter x) [((x : Int), 0)] gk cap wk (.slice oa 0 oc) :=
        ⟨HFX.out, (HGR4.out.kp hkB (fun b hb e => by have := HHA.out b e; omega)).kp hk4 (fun b hb e => by omega), by simp [St.enter, St.zero], (hleft2.kp hkB (fun e => by have := HHA.out _ e; omega)).kp hk4 (fun e => by omega),
          ⟨y1, HL1.out, (o12.kp hkB (fun e => by have := HHA.out _ e; omega)).kp hk4 (fun e => by omega)⟩, ⟨y2, HL2.out, (o22.kp hkB (fun e => by have := HHA.out _ e; omega)).kp hk4 (fun e => by omega)⟩,
          (HORD4.out.kp hkB (fun g hg e => (HPA5.out g e).2.2 hg)).kp hk4 (fun g hg e => by have := AA.ne (HORD4.out.apart g hg).2; omega), ho3.kp hk4 (fun e => by omega), hNk, hneo, hbox4⟩
      have hk04 : Kp (fun j => bb ≤ j) w w4 := (hk02.trans hkB (fun i _ e => by have := HHA.out _ e; omega)).trans hk4 (fun i _ e => by omega)
      have hpi : PInv (adjOf es back) es.length x ((St.zero es.length).enter x) [((x : Int), 0)] := PInv.start (by omega) (by omega)
      clear HPE HPA5 HGR4 HORD4 o12 o22 hk02 hbox2 hkB ho3 HB3 HHA HGK hk4 hb4 hbox4 hNk hNk' hneo hleft2 HL1 HL2 hq2 hpc
      have HKW : Hid (Kp (fun j => bb ≤ j) w w4) := hk04
      have HSI : Hid (SInv es bb N gl gp gq f w4 ((St.zero es.length).enter x) [((x : Int), 0)] gk cap wk (.slice oa 0 oc)) := hsi
      have HPI : Hid (PInv (adjOf es back) es.length x ((St.zero es.length).enter x) [((x : Int), 0)]) := hpi
      clear hsi hpi hk04
      go_wp2_with fail
      simp only [Act.put]
      refine search_loop es back bb N gl gp gq f x w _ _ _ _ _ _ _ _ _ _ _ _ _ _ _ _ _ _ _ _ _ _ _ _ _ _ _ _ _ _ _ _ _ _ _ _ _ _ _ _ _ _ _ _ _ _ _ _ _ _ _ _ _ _ _ _ _ _ _ _ _ _ _ _ _ _ _ _ _ _ _ _ _ _ _ _ _ _ _ _ _ _ _ _ _ _ _ _ _ _ _ _ _ _ _ _ _ _ _ _ _ _ _ _ _ _ _ _ _ _ _ _ _ _ _ _ _ _ _ _ _ _ _ _ _ _ _ _ _ _ _ _ _ _ _ _ _ _ _ _ _ _ _ _ _ _ _ _ _ _ _ _ _ _ _ _ _ _ _ _ _ _ _ _ _ _ _ _ _ _ _ _ _ _ _ _ _ _ _ _ _ _ _ _ _ _ _ _ _ _ _ _ _ _ _ _ _ HF.out HID.out ⟨_, _, _, _, _, _, HSI.out, HPI.out, HKW.out⟩ ?_
      clear HSI HPI HKW
      intro a' w'' hX
      unfold WX at hX
      obtain ⟨l3, hX⟩ := hX
      obtain ⟨l4, hX⟩ := hX
      obtain ⟨l5, hX⟩ := hX
      obtain ⟨l6, hX⟩ := hX
      obtain ⟨l7, hX⟩ := hX
      obtain ⟨l8, hX⟩ := hX
      obtain ⟨l9, hX⟩ := hX
      obtain ⟨l10, hX⟩ := hX
      obtain ⟨l11, hX⟩ := hX
      obtain ⟨l12, hX⟩ := hX
      obtain ⟨l13, hX⟩ := hX
      obtain ⟨l14, hX⟩ := hX
      obtain ⟨l15, hX⟩ := hX
      obtain ⟨l16, hX⟩ := hX
      obtain ⟨l17, hX⟩ := hX
      obtain ⟨l18, hX⟩ := hX
      obtain ⟨l19, hX⟩ := hX
      obtain ⟨l20, hX⟩ := hX
      obtain ⟨l21, hX⟩ := hX
      obtain ⟨l22, hX⟩ := hX
      obtain ⟨l23, hX⟩ := hX
      obtain ⟨l24, hX⟩ := hX
      obtain ⟨l25, hX⟩ := hX
      obtain ⟨l26, hX⟩ := hX
      obtain ⟨l27, hX⟩ := hX
      obtain ⟨l28, hX⟩ := hX
      obtain ⟨l29, hX⟩ := hX
      obtain ⟨l30, hX⟩ := hX
      obtain ⟨l31, hX⟩ := hX
      obtain ⟨l32, hX⟩ := hX
      obtain ⟨l33, hX⟩ := hX
      obtain ⟨l34, hX⟩ := hX
      obtain ⟨l35, hX⟩ := hX
      obtain ⟨l36, hX⟩ := hX
      obtain ⟨l37, hX⟩ := hX
      obtain ⟨l38, hX⟩ := hX
      obtain ⟨l39, hX⟩ := hX
      obtain ⟨l40, hX⟩ := hX
      obtain ⟨l41, hX⟩ := hX
      obtain ⟨l42, hX⟩ := hX
      obtain ⟨l43, hX⟩ := hX
      obtain ⟨l44, hX⟩ := hX
      obtain ⟨l45, hX⟩ := hX
      obtain ⟨l46, hX⟩ := hX
      obtain ⟨l47, hX⟩ := hX
      obtain ⟨l48, hX⟩ := hX
      obtain ⟨l49, hX⟩ := hX
      obtain ⟨l50, hX⟩ := hX
      obtain ⟨l51, hX⟩ := hX
      obtain ⟨l52, hX⟩ := hX
      obtain ⟨l53, hX⟩ := hX
      obtain ⟨l54, hX⟩ := hX
      obtain ⟨l55, hX⟩ := hX
      obtain ⟨l56, hX⟩ := hX
      obtain ⟨l57, hX⟩ := hX
      obtain ⟨l58, hX⟩ := hX
      obtain ⟨l59, hX⟩ := hX
      obtain ⟨l60, hX⟩ := hX
      obtain ⟨l61, hX⟩ := hX
      obtain ⟨l62, hX⟩ := hX
      obtain ⟨l63, hX⟩ := hX
      obtain ⟨l64, hX⟩ := hX
      obtain ⟨l65, hX⟩ := hX
      obtain ⟨l66, hX⟩ := hX
      obtain ⟨l67, hX⟩ := hX
      obtain ⟨l68, hX⟩ := hX
      obtain ⟨l69, hX⟩ := hX
      obtain ⟨l70, hX⟩ := hX
      obtain ⟨l71, hX⟩ := hX
      obtain ⟨l72, hX⟩ := hX
      obtain ⟨l73, hX⟩ := hX
      obtain ⟨l74, hX⟩ := hX
      obtain ⟨l75, hX⟩ := hX
      obtain ⟨l76, hX⟩ := hX
      obtain ⟨l77, hX⟩ := hX
      obtain ⟨l78, hX⟩ := hX
      obtain ⟨l79, hX⟩ := hX
      obtain ⟨l80, hX⟩ := hX
      obtain ⟨l81, hX⟩ := hX
      obtain ⟨l82, hX⟩ := hX
      obtain ⟨l83, hX⟩ := hX
      obtain ⟨l84, hX⟩ := hX
      obtain ⟨l85, hX⟩ := hX
      obtain ⟨l86, hX⟩ := hX
      obtain ⟨l87, hX⟩ := hX
      obtain ⟨l88, hX⟩ := hX
      obtain ⟨l89, hX⟩ := hX
      obtain ⟨l90, hX⟩ := hX
      obtain ⟨l91, hX⟩ := hX
      obtain ⟨l92, hX⟩ := hX
      obtain ⟨l93, hX⟩ := hX
      obtain ⟨l94, hX⟩ := hX
      obtain ⟨l95, hX⟩ := hX
      obtain ⟨l96, hX⟩ := hX
      obtain ⟨l97, hX⟩ := hX
      obtain ⟨l98, hX⟩ := hX
      obtain ⟨l99, hX⟩ := hX
      obtain ⟨l100, hX⟩ := hX
      obtain ⟨l101, hX⟩ := hX
      obtain ⟨l102, hX⟩ := hX
      obtain ⟨l103, hX⟩ := hX
      obtain ⟨l104, hX⟩ := hX
      obtain ⟨l105, hX⟩ := hX
      obtain ⟨l106, hX⟩ := hX
      obtain ⟨l107, hX⟩ := hX
      obtain ⟨l108, hX⟩ := hX
      obtain ⟨l109, hX⟩ := hX
      obtain ⟨l110, hX⟩ := hX
      obtain ⟨l111, hX⟩ := hX
      obtain ⟨l112, hX⟩ := hX
      obtain ⟨l113, hX⟩ := hX
      obtain ⟨l114, hX⟩ := hX
      obtain ⟨l115, hX⟩ := hX
      obtain ⟨l116, hX⟩ := hX
      obtain ⟨l117, hX⟩ := hX
      obtain ⟨l118, hX⟩ := hX
      obtain ⟨l119, hX⟩ := hX
      obtain ⟨l120, hX⟩ := hX
      obtain ⟨l121, hX⟩ := hX
      obtain ⟨l122, hX⟩ := hX
      obtain ⟨l123, hX⟩ := hX
      obtain ⟨l124, hX⟩ := hX
      obtain ⟨l125, hX⟩ := hX
      obtain ⟨l126, hX⟩ := hX
      obtain ⟨l127, hX⟩ := hX
      obtain ⟨l128, hX⟩ := hX
      obtain ⟨l129, hX⟩ := hX
      obtain ⟨l130, hX⟩ := hX
      obtain ⟨l131, hX⟩ := hX
      obtain ⟨l132, hX⟩ := hX
      obtain ⟨l133, hX⟩ := hX
      obtain ⟨l134, hX⟩ := hX
      obtain ⟨l135, hX⟩ := hX
      obtain ⟨l136, hX⟩ := hX
      obtain ⟨l137, hX⟩ := hX
      obtain ⟨l138, hX⟩ := hX
      obtain ⟨l139, hX⟩ := hX
      obtain ⟨l140, hX⟩ := hX
      obtain ⟨l141, hX⟩ := hX
      obtain ⟨l142, hX⟩ := hX
      obtain ⟨l143, hX⟩ := hX
      obtain ⟨l144, hX⟩ := hX
      obtain ⟨l145, hX⟩ := hX
      obtain ⟨l146, hX⟩ := hX
      obtain ⟨l147, hX⟩ := hX
      obtain ⟨l148, hX⟩ := hX
      obtain ⟨l149, hX⟩ := hX
      obtain ⟨l150, hX⟩ := hX
      obtain ⟨l151, hX⟩ := hX
      obtain ⟨l152, hX⟩ := hX
      obtain ⟨l153, hX⟩ := hX
      obtain ⟨l154, hX⟩ := hX
      obtain ⟨l155, hX⟩ := hX
      obtain ⟨l156, hX⟩ := hX
      obtain ⟨l157, hX⟩ := hX
      obtain ⟨l158, hX⟩ := hX
      obtain ⟨l159, hX⟩ := hX
      obtain ⟨l160, hX⟩ := hX
      obtain ⟨l161, hX⟩ := hX
      obtain ⟨l162, hX⟩ := hX
      obtain ⟨l163, hX⟩ := hX
      obtain ⟨l164, hX⟩ := hX
      obtain ⟨l165, hX⟩ := hX
      obtain ⟨l166, hX⟩ := hX
      obtain ⟨l167, hX⟩ := hX
      obtain ⟨l168, hX⟩ := hX
      obtain ⟨l169, hX⟩ := hX
      obtain ⟨l170, hX⟩ := hX
      obtain ⟨l171, hX⟩ := hX
      obtain ⟨l172, hX⟩ := hX
      obtain ⟨l173, hX⟩ := hX
      obtain ⟨l174, hX⟩ := hX
      obtain ⟨l175, hX⟩ := hX
      obtain ⟨l176, hX⟩ := hX
      obtain ⟨l177, hX⟩ := hX
      obtain ⟨l178, hX⟩ := hX
      obtain ⟨l179, hX⟩ := hX
      obtain ⟨l180, hX⟩ := hX
      obtain ⟨l181, hX⟩ := hX
      obtain ⟨l182, hX⟩ := hX
      obtain ⟨l183, hX⟩ := hX
      obtain ⟨l184, hX⟩ := hX
      obtain ⟨l185, hX⟩ := hX
      obtain ⟨l186, hX⟩ := hX
      obtain ⟨l187, hX⟩ := hX
      obtain ⟨l188, hX⟩ := hX
      obtain ⟨l189, hX⟩ := hX
      obtain ⟨l190, hX⟩ := hX
      obtain ⟨l191, hX⟩ := hX
      obtain ⟨l192, hX⟩ := hX
      obtain ⟨l193, hX⟩ := hX
      obtain ⟨l194, hX⟩ := hX
      obtain ⟨l195, hX⟩ := hX
      obtain ⟨l196, hX⟩ := hX
      obtain ⟨l197, hX⟩ := hX
      obtain ⟨⟨s', gk', cap', wk', ov', hsi, hpi, hkw⟩, rfl⟩ := hX
      go_wp2_with fail
      go_end0
      obtain ⟨y1, l1, o1⟩ := hsi.o1
      obtain ⟨y2, l2, o2⟩ := hsi.o2
      refine ⟨rfl, s', hpi.done s' (Done.nil s'), ⟨hsi.fix, hsi.gr, hsi.len, hsi.left, wk', ov', _, [], y1, y2, ⟨l1, l2, o1, o2, hsi.ord, hsi.path, ?_, hsi.box⟩⟩, hkw⟩
      intro g hg
      obtain rfl : gk' = g := by simpa [Value.ownBlock] using hg
      exact ⟨hsi.path.lt, hsi.apart, hsi.ne⟩
end Go.Proofs.Qxb6003663a
