/-
  A case of the round of search's second loop.
-/
import Derived.Test.Qxb6003663aSLoop
namespace Go.Proofs.Qxb6003663a
open Go.RowKit

set_option maxHeartbeats 4000000 in
set_option maxRecDepth 1000000 in
theorem search_leave (es : List (List Int)) (back : Bool) (bb N gl gp gq : Nat) (f : Fx) (x : Nat) (w : World) (l3 l4 l5 l6 l7 l8 l9 l10 l11 l12 l13 l14 l15 l16 l17 l18 l19 l20 l21 l22 l23 l24 l25 l26 l27 l28 l29 l30 l31 l32 l33 l34 l35 l36 l37 l38 l39 l40 l41 l42 l43 l44 l45 l46 l47 l48 l49 l50 l51 l52 l53 l54 l55 l56 l57 l58 l59 l60 l61 l62 l63 l64 l65 l66 l67 l68 l69 l70 l71 l72 l73 l74 l75 l76 l77 l78 l79 l80 l81 l82 l83 l84 l85 l86 l87 l88 l89 l90 l91 l92 l93 l94 l95 l96 l97 l98 l99 l100 l101 l102 l103 l104 l105 l106 l107 l108 l109 l110 l111 l112 l113 l114 l115 l116 l117 l118 l119 l120 l121 l122 l123 l124 l125 l126 l127 l128 l129 l130 l131 l132 l133 l134 l135 l136 l137 l138 l139 l140 l141 l142 l143 l144 l145 l146 l147 l148 l149 l150 l151 l152 l153 l154 l155 l156 l157 l158 l159 l160 l161 l162 l163 l164 l165 l166 l167 l168 l169 l170 l171 l172 l173 l174 l175 l176 l177 l178 l179 l180 l181 l182 l183 l184 l185 l186 l187 l188 l189 l190 l191 l192 l193 l194 l195 l196 l197 : Value) (wr : World) (Q0 : Exit → Act → World → Prop) (hf : Fits es) (hid : Ids es) (s : St) (q : List (Int × Nat)) (z t : Nat) (gk cap : Nat) (wk : Int) (ov : Value) (hsi : SInv es bb N gl gp gq f wr s (q ++ [((z : Int), t)]) gk cap wk ov) (hpi : PInv (adjOf es back) es.length x s (q ++ [((z : Int), t)])) (hkw : Kp (fun j => bb ≤ j) w wr) (hz0 : z < es.length) (htl : es[z].length ≤ t) :
    Code.wp Try.prog body2 (Exit.then (fun a' w'' => WI es back bb N gl gp gq f x w a' w'' ∧ meas (deg es) es.length gl bb w'' < meas (deg es) es.length gl bb wr) Q0) ⟨#[.pointer (some ⟨bb, 0, none⟩), .int .i32 (x : Int), .bool back, l3, l4, l5, l6, l7, l8, l9, l10, l11, l12, l13, l14, l15, l16, l17, l18, l19, l20, l21, l22, l23, l24, l25, l26, l27, l28, l29, l30, l31, l32, l33, l34, l35, l36, l37, l38, l39, l40, l41, l42, l43, l44, l45, l46, l47, l48, l49, l50, l51, l52, l53, l54, l55, l56, l57, l58, l59, l60, l61, l62, l63, l64, l65, l66, l67, l68, l69, l70, l71, l72, l73, l74, l75, l76, l77, l78, l79, l80, l81, l82, l83, l84, l85, l86, l87, l88, l89, l90, l91, l92, l93, l94, l95, l96, l97, l98, l99, l100, l101, l102, l103, l104, l105, l106, l107, l108, l109, l110, l111, l112, l113, l114, l115, l116, l117, l118, l119, l120, l121, l122, l123, l124, l125, l126, l127, l128, l129, l130, l131, l132, l133, l134, l135, l136, l137, l138, l139, l140, l141, l142, l143, l144, l145, l146, l147, l148, l149, l150, l151, l152, l153, l154, l155, l156, l157, l158, l159, l160, l161, l162, l163, l164, l165, l166, l167, l168, l169, l170, l171, l172, l173, l174, l175, l176, l177, l178, l179, l180, l181, l182, l183, l184, l185, l186, l187, l188, l189, l190, l191, l192, l193, l194, l195, l196, l197], []⟩ wr := by
  conv => arg 2; whnf
  obtain ⟨f1, f2, f3, f4, f5, f6, f7⟩ := hsi.fix
  have HFX : Hid (SFix es bb N gl gp gq f) := hsi.fix
  clear f5 f6 f7
  have HSI : Hid (SInv es bb N gl gp gq f wr s (q ++ [((z : Int), t)]) gk cap wk ov) := hsi
  have HPI : Hid (PInv (adjOf es back) es.length x s (q ++ [((z : Int), t)])) := hpi
  have HKW : Hid (Kp (fun j => bb ≤ j) w wr) := hkw
  have hn := hf.1
  have hql : q.length + 1 ≤ 43690 := by have := hpi.sum; simp only [List.length_append, List.length_singleton] at this; omega
  have hsl : s.order.length + 1 ≤ 43690 := by have := hpi.sum; simp only [List.length_append, List.length_singleton] at this; omega
  have c7 := hsi.box.c7
  rw [List.length_append] at c7
  have hpa := hsi.path.at cc_len (i := q.length) (by simp)
  simp only [List.getElem_append_right (Nat.le_refl _), Nat.sub_self, List.getElem_singleton] at hpa
  have k0 := hpa 0 _ rfl
  have k1 := hpa 1 _ rfl
  simp only [Nat.add_zero] at k0
  clear hpa
  have c0 := hsi.box.c0
  obtain ⟨ea, ec, hev⟩ := hsi.gr.slice
  rw [hev] at c0
  have hgr : Gr (fun b => bb < b ∧ b < N) wr (.slice ea es.length ec) es := hev ▸ hsi.gr
  obtain ⟨b, o, y, d, bi, rfl, -, hc, hbi, hs⟩ := hgr.list hz0
  have hll := hf.2 es[z] (List.getElem_mem hz0)
  have hidl := hid es[z] (List.getElem_mem hz0)
  have HADJ : Hid (∀ k, k < es[z].length → (adjOf es false z)[k]? = es[z][k]? ∧ (adjOf es true z)[k]? = es[z][es[z].length - 1 - k]?) := fun k hk => adjOf_get hz0 hk
  have HAL : Hid ((adjOf es back z).length = es[z].length) := by
    rw [adjOf_len, List.getD_eq_getElem?_getD, Int.toNat_natCast, List.getElem?_eq_getElem hz0]; rfl
  have HDEG : Hid (deg es z = es[z].length) := by
    rw [deg, List.getD_eq_getElem?_getD, List.getElem?_eq_getElem hz0]; rfl
  generalize es[z] = l at hc hbi hs hll hidl HADJ HAL HDEG htl
  have HS : Hid (Sl ic 1 wr bi (.slice y l.length d) l) := hs
  have HIDL : Hid (∀ x ∈ l, 0 ≤ x ∧ x < (es.length : Int)) := hidl
  have HBI : Hid (0 < l.length → bb < bi ∧ bi < N) := hbi
  have HM : Hid (meas (deg es) es.length gl bb wr = zsum (deg es) es.length s.left + psum (deg es) (q ++ [((z : Int), t)])) := meas_eq (deg es) hsi.len hsi.left hsi.path hsi.box
  have fz1 := hsi.path.frozen cc_len (q.length * 2 + 1)
  have c4 := hsi.box.c4
  have fz4 := hsi.box.frozen 4
  clear hs hidl hbi hev hgr hf hid hsi hpi hkw
  go_wp2_with fail
  refine wp_region_text [3, 21, 50] Try.mixed (by kernel_rfl) ?_
  go_wp2_with fail
  refine ⟨by kernel_rfl, ?_⟩
  go_wp2_with fail
  refine wp_region_text [3, 21, 50] Try.mixed (by kernel_rfl) ?_
  go_wp2_with fail
  refine ⟨by kernel_rfl, ?_⟩
  have HS5 : Hid (SInv es bb N gl gp gq f (wr.setCell ⟨bb, 4, none⟩ (.int .i64 (wrap64 (wk + (1 + l.length))))).drew.drew s (q ++ [((z : Int), t)]) gk cap (wrap64 (wk + (1 + l.length))) ov) := (HSI.out.setWork _).drew.drew
  have hgk := AA.ne HSI.out.apart
  have HKW5 : Hid (Kp (fun j => bb ≤ j) w (wr.setCell ⟨bb, 4, none⟩ (.int .i64 (wrap64 (wk + (1 + l.length))))).drew.drew) := (kp_fromSet HKW.out (Nat.le_refl _)).drew.drew
  go_upto_region 21 with fail
  clear HKW HS c7 k0 k1 c0 hc fz1 c4 fz4 HSI
  generalize (wr.setCell ⟨bb, 4, none⟩ (Value.int .i64 (wrap64 (wk + (1 + l.length))))).drew.drew = w5 at HS5 HKW5 ⊢
  have c6 := HS5.out.box.c6
  have hpa := HS5.out.path.at cc_len (i := q.length) (by simp)
  simp only [List.getElem_append_right (Nat.le_refl _), Nat.sub_self, List.getElem_singleton] at hpa
  have k0 := hpa 0 _ rfl
  simp only [Nat.add_zero] at k0
  clear hpa
  have hbl := HS5.out.box.lt
  have HOA : Hid (∀ g, ov.ownBlock = some g → N ≤ g ∧ g ≠ gl ∧ g ≠ gp ∧ g ≠ gq) := fun g hg => AA.ne (HS5.out.ord.apart g hg).2
  refine wp_region_two [3, 21, 50] 4 9 [0, 1, 2, 3, 5, 6, 7, 8, 9, 4, 10, 11, 12, 13] Try.mixed (by kernel_rfl) ?_ ?_
  · skip
    go_wp2_with (at_builtin; refine wpList_append_row rfl _ _ 56 rfl ic_len (by omega) ic_one 50 (.int .i32 0) 4 Try.underlying56 Try.info50 rfl ov s.order rfl (by exact ((Kp.refl No w5).drew.alloc _).owns HS5.out.ord.owns (fun _ _ => no_not _)) _ 0 _ _ [(z : Int)] rfl rfl ?hat (by simp) (by simp; omega) (by omega) ?_)
    case hat => exact at_row (l := [.int .i32 z]) (heap_alloc_new _ _)
    intro g7 cap7 w7 ho7 hk7 hg7
    have hk7' : Kp (fun j => ov.ownBlock = some j) w5 w7 := (((Kp.refl _ w5).drew.alloc _)).trans hk7 (fun i _ e => e)
    have hg7' : ov.ownBlock = some g7 ∨ w5.heap.size ≤ g7 := hg7.imp id (fun h => by have h' : w5.heap.size + 1 ≤ g7 := h; omega)
    have hb7 := HS5.out.box.kp hk7' (fun e => by have := HOA.out bb e; omega)
    have c67 := hb7.c6
    have fz7 := hb7.frozen 6
    have HS8 : Hid (SInv es bb N gl gp gq f (w7.setCell ⟨bb, 6, none⟩ (.slice (some ⟨g7, 0, none⟩) (s.order.length + 1) cap7)) ⟨s.left, s.order ++ [(z : Int)]⟩ (q ++ [((z : Int), t)]) gk cap (wrap64 (wk + (1 + l.length))) (.slice (some ⟨g7, 0, none⟩) (s.order.length + 1) cap7)) :=
      HS5.out.setOrder ho7 hk7' hg7' (by simp)
    have HKW8 : Hid (Kp (fun j => bb ≤ j) w (w7.setCell ⟨bb, 6, none⟩ (.slice (some ⟨g7, 0, none⟩) (s.order.length + 1) cap7))) := kp_fromSet (kp_from HKW5.out hk7' (fun j e => by have := HOA.out j e; omega)) (Nat.le_refl _)
    clear hk7 hg7 hg7' c6 k0 hb7 hk7' HS5 HKW5 ho7 HOA
    go_wp2_with fail
    refine ⟨by kernel_rfl, ?_⟩
    generalize w7.setCell ⟨bb, 6, none⟩ (Value.slice (some ⟨g7, 0, none⟩) (s.order.length + 1) cap7) = w8 at HS8 HKW8 ⊢
    have c5 := HS8.out.box.c5
    rw [HFX.out.lf] at c5
    simp only [slc] at c5
    have c6 := HS8.out.box.c6
    have hpa := HS8.out.path.at cc_len (i := q.length) (by simp)
    simp only [List.getElem_append_right (Nat.le_refl _), Nat.sub_self, List.getElem_singleton] at hpa
    have k0 := hpa 0 _ rfl
    simp only [Nat.add_zero] at k0
    clear hpa
    have hzl : z < s.left.length := by have := HS8.out.len; simp only at this; omega
    have HLN : Hid (s.left.length = es.length) := HS8.out.len
    have hlc := HS8.out.left.cell (p := fun x => .int .i32 x) (fun _ => rfl) hzl
    have fz8 := HS8.out.left.frozen ic_len z
    have HS9 : Hid (SInv es bb N gl gp gq f (w8.setCell ⟨gl, z, none⟩ (.int .i32 (s.order.length + 1))) (s.leave z) (q ++ [((z : Int), t)]) gk cap (wrap64 (wk + (1 + l.length))) (.slice (some ⟨g7, 0, none⟩) (s.order.length + 1) cap7)) := HS8.out.setLeft z (s.order.length + 1)
    have HKW9 : Hid (Kp (fun j => bb ≤ j) w (w8.setCell ⟨gl, z, none⟩ (.int .i32 (s.order.length + 1)))) := kp_fromSet HKW8.out (by omega)
    go_wp2_with fail
    refine wp_region_text [3, 21, 50] Try.mixed (by kernel_rfl) ?_
    go_wp2_with fail
    refine ⟨by kernel_rfl, ?_⟩
    clear c5 c6 k0 hlc fz8 HS8 HKW8
    generalize w8.setCell ⟨gl, z, none⟩ (Value.int .i32 (s.order.length + 1)) = w9 at HS9 HKW9 ⊢
    have c7 := HS9.out.box.c7
    rw [List.length_append] at c7
    have fz9 := HS9.out.box.frozen 7
    have hqc : q.length + 1 ≤ cap := by have := HS9.out.path.le cc_len; simpa using this
    have HS10 : Hid (SInv es bb N gl gp gq f (w9.setCell ⟨bb, 7, none⟩ (.slice (some ⟨gk, 0, none⟩) q.length cap)).drew.drew (s.leave z) q gk cap (wrap64 (wk + (1 + l.length))) (.slice (some ⟨g7, 0, none⟩) (s.order.length + 1) cap7)) := HS9.out.popPath.drew.drew
    have HKW10 : Hid (Kp (fun j => bb ≤ j) w (w9.setCell ⟨bb, 7, none⟩ (.slice (some ⟨gk, 0, none⟩) q.length cap)).drew.drew) := (kp_fromSet HKW9.out (Nat.le_refl _)).drew.drew
    go_wp2_with fail
    refine wp_region_text [3, 21, 50] Try.mixed (by kernel_rfl) ?_
    go_wp2_with fail
    refine ⟨by kernel_rfl, ?_⟩
    go_wp2_with fail
    clear c7 fz9 HS9 HKW9
    generalize (w9.setCell ⟨bb, 7, none⟩ (Value.slice (some ⟨gk, 0, none⟩) q.length cap)).drew.drew = w10 at HS10 HKW10 ⊢
    refine ⟨?_, ?_⟩
    · unfold WI
      exact ⟨_, _, _, _, _, _, _, _, _, _, _, _, _, _, _, _, _, _, _, _, _, _, _, _, _, _, _, _, _, _, _, _, _, _, _, _, _, _, _, _, _, _, _, _, _, _, _, _, _, _, _, _, _, _, _, _, _, _, _, _, _, _, _, _, _, _, _, _, _, _, _, _, _, _, _, _, _, _, _, _, _, _, _, _, _, _, _, _, _, _, _, _, _, _, _, _, _, _, _, _, _, _, _, _, _, _, _, _, _, _, _, _, _, _, _, _, _, _, _, _, _, _, _, _, _, _, _, _, _, _, _, _, _, _, _, _, _, _, _, _, _, _, _, _, _, _, _, _, _, _, _, _, _, _, _, _, _, _, _, _, _, _, _, _, _, _, _, _, _, _, _, _, _, _, _, _, _, _, _, _, _, _, _, _, _, _, _, _, _, _, _, _, _, _, _, ⟨_, _, _, _, _, _, HS10.out, HPI.out.pop (by rw [HAL.out]; exact htl), HKW10.out⟩, rfl⟩
    · rw [meas_eq (deg es) HS10.out.len HS10.out.left HS10.out.path HS10.out.box, HM.out]
      exact m_pop (deg es) es.length s.left q z t _ (by omega)
  · simp only [pick, List.map_cons, List.map_nil, nth]
    go_wp2_with (at_builtin; refine wpList_append_row rfl _ _ 56 rfl ic_len (by omega) ic_one 50 (.int .i32 0) 4 Try.underlying56 Try.info50 rfl ov s.order rfl (by exact ((Kp.refl No w5).drew.alloc _).owns HS5.out.ord.owns (fun _ _ => no_not _)) _ 0 _ _ [(z : Int)] rfl rfl ?hat (by simp) (by simp; omega) (by omega) ?_)
    case hat => exact at_row (l := [.int .i32 z]) (heap_alloc_new _ _)
    intro g7 cap7 w7 ho7 hk7 hg7
    have hk7' : Kp (fun j => ov.ownBlock = some j) w5 w7 := (((Kp.refl _ w5).drew.alloc _)).trans hk7 (fun i _ e => e)
    have hg7' : ov.ownBlock = some g7 ∨ w5.heap.size ≤ g7 := hg7.imp id (fun h => by have h' : w5.heap.size + 1 ≤ g7 := h; omega)
    have hb7 := HS5.out.box.kp hk7' (fun e => by have := HOA.out bb e; omega)
    have c67 := hb7.c6
    have fz7 := hb7.frozen 6
    have HS8 : Hid (SInv es bb N gl gp gq f (w7.setCell ⟨bb, 6, none⟩ (.slice (some ⟨g7, 0, none⟩) (s.order.length + 1) cap7)) ⟨s.left, s.order ++ [(z : Int)]⟩ (q ++ [((z : Int), t)]) gk cap (wrap64 (wk + (1 + l.length))) (.slice (some ⟨g7, 0, none⟩) (s.order.length + 1) cap7)) :=
      HS5.out.setOrder ho7 hk7' hg7' (by simp)
    have HKW8 : Hid (Kp (fun j => bb ≤ j) w (w7.setCell ⟨bb, 6, none⟩ (.slice (some ⟨g7, 0, none⟩) (s.order.length + 1) cap7))) := kp_fromSet (kp_from HKW5.out hk7' (fun j e => by have := HOA.out j e; omega)) (Nat.le_refl _)
    clear hk7 hg7 hg7' c6 k0 hb7 hk7' HS5 HKW5 ho7 HOA
    go_wp2_with fail
    refine ⟨by kernel_rfl, ?_⟩
    generalize w7.setCell ⟨bb, 6, none⟩ (Value.slice (some ⟨g7, 0, none⟩) (s.order.length + 1) cap7) = w8 at HS8 HKW8 ⊢
    have c5 := HS8.out.box.c5
    rw [HFX.out.lf] at c5
    simp only [slc] at c5
    have c6 := HS8.out.box.c6
    have hpa := HS8.out.path.at cc_len (i := q.length) (by simp)
    simp only [List.getElem_append_right (Nat.le_refl _), Nat.sub_self, List.getElem_singleton] at hpa
    have k0 := hpa 0 _ rfl
    simp only [Nat.add_zero] at k0
    clear hpa
    have hzl : z < s.left.length := by have := HS8.out.len; simp only at this; omega
    have HLN : Hid (s.left.length = es.length) := HS8.out.len
    have hlc := HS8.out.left.cell (p := fun x => .int .i32 x) (fun _ => rfl) hzl
    have fz8 := HS8.out.left.frozen ic_len z
    have HS9 : Hid (SInv es bb N gl gp gq f (w8.setCell ⟨gl, z, none⟩ (.int .i32 (s.order.length + 1))) (s.leave z) (q ++ [((z : Int), t)]) gk cap (wrap64 (wk + (1 + l.length))) (.slice (some ⟨g7, 0, none⟩) (s.order.length + 1) cap7)) := HS8.out.setLeft z (s.order.length + 1)
    have HKW9 : Hid (Kp (fun j => bb ≤ j) w (w8.setCell ⟨gl, z, none⟩ (.int .i32 (s.order.length + 1)))) := kp_fromSet HKW8.out (by omega)
    go_wp2_with fail
    refine wp_region_text [3, 21, 50] Try.mixed (by kernel_rfl) ?_
    go_wp2_with fail
    refine ⟨by kernel_rfl, ?_⟩
    clear c5 c6 k0 hlc fz8 HS8 HKW8
    generalize w8.setCell ⟨gl, z, none⟩ (Value.int .i32 (s.order.length + 1)) = w9 at HS9 HKW9 ⊢
    have c7 := HS9.out.box.c7
    rw [List.length_append] at c7
    have fz9 := HS9.out.box.frozen 7
    have hqc : q.length + 1 ≤ cap := by have := HS9.out.path.le cc_len; simpa using this
    have HS10 : Hid (SInv es bb N gl gp gq f (w9.setCell ⟨bb, 7, none⟩ (.slice (some ⟨gk, 0, none⟩) q.length cap)).drew.drew (s.leave z) q gk cap (wrap64 (wk + (1 + l.length))) (.slice (some ⟨g7, 0, none⟩) (s.order.length + 1) cap7)) := HS9.out.popPath.drew.drew
    have HKW10 : Hid (Kp (fun j => bb ≤ j) w (w9.setCell ⟨bb, 7, none⟩ (.slice (some ⟨gk, 0, none⟩) q.length cap)).drew.drew) := (kp_fromSet HKW9.out (Nat.le_refl _)).drew.drew
    go_wp2_with fail
    refine wp_region_text [3, 21, 50] Try.mixed (by kernel_rfl) ?_
    go_wp2_with fail
    refine ⟨by kernel_rfl, ?_⟩
    go_wp2_with fail
    clear c7 fz9 HS9 HKW9
    generalize (w9.setCell ⟨bb, 7, none⟩ (Value.slice (some ⟨gk, 0, none⟩) q.length cap)).drew.drew = w10 at HS10 HKW10 ⊢
    refine ⟨?_, ?_⟩
    · unfold WI
      exact ⟨_, _, _, _, _, _, _, _, _, _, _, _, _, _, _, _, _, _, _, _, _, _, _, _, _, _, _, _, _, _, _, _, _, _, _, _, _, _, _, _, _, _, _, _, _, _, _, _, _, _, _, _, _, _, _, _, _, _, _, _, _, _, _, _, _, _, _, _, _, _, _, _, _, _, _, _, _, _, _, _, _, _, _, _, _, _, _, _, _, _, _, _, _, _, _, _, _, _, _, _, _, _, _, _, _, _, _, _, _, _, _, _, _, _, _, _, _, _, _, _, _, _, _, _, _, _, _, _, _, _, _, _, _, _, _, _, _, _, _, _, _, _, _, _, _, _, _, _, _, _, _, _, _, _, _, _, _, _, _, _, _, _, _, _, _, _, _, _, _, _, _, _, _, _, _, _, _, _, _, _, _, _, _, _, _, _, _, _, _, _, _, _, _, _, _, ⟨_, _, _, _, _, _, HS10.out, HPI.out.pop (by rw [HAL.out]; exact htl), HKW10.out⟩, rfl⟩
    · rw [meas_eq (deg es) HS10.out.len HS10.out.left HS10.out.path HS10.out.box, HM.out]
      exact m_pop (deg es) es.length s.left q z t _ (by omega)
end Go.Proofs.Qxb6003663a
