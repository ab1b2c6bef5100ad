/-
  A case of the round of search's second loop.
-/
import Derived.Test.Qxb6003663aSLoop
namespace Go.Proofs.Qxb6003663a
open Go.RowKit

set_option maxHeartbeats 4000000 in
set_option maxRecDepth 1000000 in
theorem search_step_false (es : List (List Int)) (bb N gl gp gq : Nat) (f : Fx) (x : Nat) (w : World) (l3 l4 l5 l6 l7 l8 l9 l10 l11 l12 l13 l14 l15 l16 l17 l18 l19 l20 l21 l22 l23 l24 l25 l26 l27 l28 l29 l30 l31 l32 l33 l34 l35 l36 l37 l38 l39 l40 l41 l42 l43 l44 l45 l46 l47 l48 l49 l50 l51 l52 l53 l54 l55 l56 l57 l58 l59 l60 l61 l62 l63 l64 l65 l66 l67 l68 l69 l70 l71 l72 l73 l74 l75 l76 l77 l78 l79 l80 l81 l82 l83 l84 l85 l86 l87 l88 l89 l90 l91 l92 l93 l94 l95 l96 l97 l98 l99 l100 l101 l102 l103 l104 l105 l106 l107 l108 l109 l110 l111 l112 l113 l114 l115 l116 l117 l118 l119 l120 l121 l122 l123 l124 l125 l126 l127 l128 l129 l130 l131 l132 l133 l134 l135 l136 l137 l138 l139 l140 l141 l142 l143 l144 l145 l146 l147 l148 l149 l150 l151 l152 l153 l154 l155 l156 l157 l158 l159 l160 l161 l162 l163 l164 l165 l166 l167 l168 l169 l170 l171 l172 l173 l174 l175 l176 l177 l178 l179 l180 l181 l182 l183 l184 l185 l186 l187 l188 l189 l190 l191 l192 l193 l194 l195 l196 l197 : Value) (wr : World) (Q0 : Exit → Act → World → Prop) (hf : Fits es) (hid : Ids es) (s : St) (q : List (Int × Nat)) (z t : Nat) (gk cap : Nat) (wk : Int) (ov : Value) (hsi : SInv es bb N gl gp gq f wr s (q ++ [((z : Int), t)]) gk cap wk ov) (hpi : PInv (adjOf es false) es.length x s (q ++ [((z : Int), t)])) (hkw : Kp (fun j => bb ≤ j) w wr) (hz0 : z < es.length) (htl : t < es[z].length) :
    Code.wp Try.prog body2 (Exit.then (fun a' w'' => WI es false bb N gl gp gq f x w a' w'' ∧ meas (deg es) es.length gl bb w'' < meas (deg es) es.length gl bb wr) Q0) ⟨#[.pointer (some ⟨bb, 0, none⟩), .int .i32 (x : Int), .bool false, l3, l4, l5, l6, l7, l8, l9, l10, l11, l12, l13, l14, l15, l16, l17, l18, l19, l20, l21, l22, l23, l24, l25, l26, l27, l28, l29, l30, l31, l32, l33, l34, l35, l36, l37, l38, l39, l40, l41, l42, l43, l44, l45, l46, l47, l48, l49, l50, l51, l52, l53, l54, l55, l56, l57, l58, l59, l60, l61, l62, l63, l64, l65, l66, l67, l68, l69, l70, l71, l72, l73, l74, l75, l76, l77, l78, l79, l80, l81, l82, l83, l84, l85, l86, l87, l88, l89, l90, l91, l92, l93, l94, l95, l96, l97, l98, l99, l100, l101, l102, l103, l104, l105, l106, l107, l108, l109, l110, l111, l112, l113, l114, l115, l116, l117, l118, l119, l120, l121, l122, l123, l124, l125, l126, l127, l128, l129, l130, l131, l132, l133, l134, l135, l136, l137, l138, l139, l140, l141, l142, l143, l144, l145, l146, l147, l148, l149, l150, l151, l152, l153, l154, l155, l156, l157, l158, l159, l160, l161, l162, l163, l164, l165, l166, l167, l168, l169, l170, l171, l172, l173, l174, l175, l176, l177, l178, l179, l180, l181, l182, l183, l184, l185, l186, l187, l188, l189, l190, l191, l192, l193, l194, l195, l196, l197], []⟩ wr := by
  conv => arg 2; whnf
  obtain ⟨f1, f2, f3, f4, f5, f6, f7⟩ := hsi.fix
  have HFX : Hid (SFix es bb N gl gp gq f) := hsi.fix
  clear f5 f6 f7
  have HSI : Hid (SInv es bb N gl gp gq f wr s (q ++ [((z : Int), t)]) gk cap wk ov) := hsi
  have HPI : Hid (PInv (adjOf es false) es.length x s (q ++ [((z : Int), t)])) := hpi
  have HKW : Hid (Kp (fun j => bb ≤ j) w wr) := hkw
  have hn := hf.1
  have hql : q.length + 1 ≤ 43690 := by have := hpi.sum; simp only [List.length_append, List.length_singleton] at this; omega
  have hsl : s.order.length + 1 ≤ 43690 := by have := hpi.sum; simp only [List.length_append, List.length_singleton] at this; omega
  have c7 := hsi.box.c7
  rw [List.length_append] at c7
  have hpa := hsi.path.at cc_len (i := q.length) (by simp)
  simp only [List.getElem_append_right (Nat.le_refl _), Nat.sub_self, List.getElem_singleton] at hpa
  have k0 := hpa 0 _ rfl
  have k1 := hpa 1 _ rfl
  simp only [Nat.add_zero] at k0
  clear hpa
  have c0 := hsi.box.c0
  obtain ⟨ea, ec, hev⟩ := hsi.gr.slice
  rw [hev] at c0
  have hgr : Gr (fun b => bb < b ∧ b < N) wr (.slice ea es.length ec) es := hev ▸ hsi.gr
  obtain ⟨b, o, y, d, bi, rfl, -, hc, hbi, hs⟩ := hgr.list hz0
  have hll := hf.2 es[z] (List.getElem_mem hz0)
  have hidl := hid es[z] (List.getElem_mem hz0)
  have HADJ : Hid (∀ k, k < es[z].length → (adjOf es false z)[k]? = es[z][k]? ∧ (adjOf es true z)[k]? = es[z][es[z].length - 1 - k]?) := fun k hk => adjOf_get hz0 hk
  have HAL : Hid ((adjOf es false z).length = es[z].length) := by
    rw [adjOf_len, List.getD_eq_getElem?_getD, Int.toNat_natCast, List.getElem?_eq_getElem hz0]; rfl
  have HDEG : Hid (deg es z = es[z].length) := by
    rw [deg, List.getD_eq_getElem?_getD, List.getElem?_eq_getElem hz0]; rfl
  generalize es[z] = l at hc hbi hs hll hidl HADJ HAL HDEG htl
  have HS : Hid (Sl ic 1 wr bi (.slice y l.length d) l) := hs
  have HIDL : Hid (∀ x ∈ l, 0 ≤ x ∧ x < (es.length : Int)) := hidl
  have HBI : Hid (0 < l.length → bb < bi ∧ bi < N) := hbi
  have HM : Hid (meas (deg es) es.length gl bb wr = zsum (deg es) es.length s.left + psum (deg es) (q ++ [((z : Int), t)])) := meas_eq (deg es) hsi.len hsi.left hsi.path hsi.box
  have fz1 := hsi.path.frozen cc_len (q.length * 2 + 1)
  clear hs hidl hbi hev hgr hf hid hsi hpi hkw
  go_wp2_with fail
  refine wp_region_text [3, 21, 50] Try.mixed (by kernel_rfl) ?_
  go_wp2_with fail
  refine ⟨by kernel_rfl, ?_⟩
  go_wp2_with fail
  refine wp_region_text [3, 21, 50] Try.mixed (by kernel_rfl) ?_
  go_wp2_with fail
  refine ⟨by kernel_rfl, ?_⟩
  obtain ⟨qi, HQ⟩ : ∃ qi : Nat, Hid (t = qi) := ⟨_, rfl⟩
  have hqil : qi < l.length := by have := HQ.out; omega
  have hadj : (adjOf es false z)[t]? = some l[qi] := by rw [(HADJ.out t htl).1, HQ.out, List.getElem?_eq_getElem hqil]
  have HADK0 : Hid ((adjOf es false z)[t]? = some l[qi]) := hadj
  clear hadj
  have HS5 : Hid (SInv es bb N gl gp gq f (wr.setCell ⟨gk, q.length * 2 + 1, none⟩ (.int .i64 (t + 1))).drew.drew s (q ++ [((z : Int), t + 1)]) gk cap wk ov) := HSI.out.taken.drew.drew
  have hgk := AA.ne HSI.out.apart
  have HKW5 : Hid (Kp (fun j => bb ≤ j) w (wr.setCell ⟨gk, q.length * 2 + 1, none⟩ (.int .i64 (t + 1))).drew.drew) := (kp_fromSet HKW.out (by omega)).drew.drew
  have HSL5 : Hid (Sl ic 1 (wr.setCell ⟨gk, q.length * 2 + 1, none⟩ (.int .i64 (t + 1))).drew.drew bi (.slice y l.length d) l) := HS.out.kp0 (kp_set wr gk (q.length * 2 + 1) (.int .i64 (t + 1))).drew.drew (fun h e => by have := HBI.out h; omega)
  go_upto_region 16 with fail
  clear HKW HS c7 k0 k1 c0 hc fz1
  generalize (wr.setCell ⟨gk, q.length * 2 + 1, none⟩ (Value.int .i64 (t + 1))).drew.drew = w5 at HS5 HKW5 HSL5 ⊢
  obtain ⟨oo, rfl, hcell⟩ := HSL5.out.cell (g := fun x => .int .i32 x) (fun _ => rfl) hqil
  have hin := HIDL.out l[qi] (List.getElem_mem hqil)
  have hq := HQ.out
  subst hq
  generalize l[t] = y0 at HADK0 hcell hin
  obtain ⟨u, rfl⟩ := Int.eq_ofNat_of_zero_le hin.1
  have hu0 : u < es.length := by have := hin.2; omega
  have HADK : Hid ((adjOf es false z)[t]? = some (u : Int)) := HADK0
  clear HADK0 hin HSL5
  have hul : u < s.left.length := by rw [HS5.out.len]; exact hu0
  have hlc := HS5.out.left.cell (p := fun x => .int .i32 x) (fun _ => rfl) hul
  have HAT : Hid (s.at u = s.left[u]) := St.at_get s u hul
  have c5 := HS5.out.box.c5
  rw [HFX.out.lf] at c5
  simp only [slc] at c5
  by_cases hzero : s.left[u] = 0
  · have HAT0 : Hid (s.at u = 0) := by rw [HAT.out]; exact hzero
    rw [hzero] at hlc
    clear hzero HAT
    have fz5 := HS5.out.left.frozen ic_len u
    have HS6 : Hid (SInv es bb N gl gp gq f (w5.setCell ⟨gl, u, none⟩ (.int .i32 (-1))) (s.enter u) (q ++ [((z : Int), t + 1)]) gk cap wk ov) := HS5.out.setLeft u (-1)
    have HKW6 : Hid (Kp (fun j => bb ≤ j) w (w5.setCell ⟨gl, u, none⟩ (.int .i32 (-1)))) := kp_fromSet HKW5.out (by omega)
    have HLN : Hid (s.left.length = es.length) := HS5.out.len
    go_upto_region 19 with fail
    clear c5 hlc hcell HS5 HKW5 fz5
    generalize w5.setCell ⟨gl, u, none⟩ (Value.int .i32 (-1)) = w6 at HS6 HKW6 ⊢
    have c7 := HS6.out.box.c7
    rw [List.length_append] at c7
    have HOW6 : Hid (w6.ownsRow 0 65 2 (.slice (some ⟨gk, 0, none⟩) (q ++ [((z : Int), t + 1)]).length cap) (q ++ [((z : Int), t + 1)]).length ((q ++ [((z : Int), t + 1)]).flatMap cc)) := HS6.out.path
    go_wp2_with (at_builtin; refine wpList_append_row rfl _ _ 57 rfl cc_len (by omega) cc_one 65 (.agg #[.int .i32 0, .int .i64 0]) 16 Try.underlying57 Try.info65 rfl (.slice (some ⟨gk, 0, none⟩) (q ++ [((z : Int), t + 1)]).length cap) (q ++ [((z : Int), t + 1)]) (by rw [List.length_append]; rfl) (by exact ((Kp.refl No w6).alloc _).owns HOW6.out (fun _ _ => no_not _)) _ 0 _ _ [((u : Int), 0)] rfl rfl ?hat (by simp) (by simp; omega) (by omega) ?_)
    case hat => exact at_row (l := cc ((u : Int), 0)) (heap_alloc_new _ _)
    intro g7 cap7 w7 ho7 hk7 hg7
    have hk7' : Kp (fun j => j = gk) w6 w7 := ((Kp.refl _ w6).alloc _).trans hk7 (fun i _ e => by simpa [Value.ownBlock, eq_comm] using e)
    have hg7' : g7 = gk ∨ w6.heap.size ≤ g7 := hg7.imp (fun h => by simpa [Value.ownBlock, eq_comm] using h) (fun h => by omega)
    have hb7 := HS6.out.box.kp hk7' (fun e => by omega)
    have c77 := hb7.c7
    have fz7 := hb7.frozen 7
    have HS8 : Hid (SInv es bb N gl gp gq f (w7.setCell ⟨bb, 7, none⟩ (.slice (some ⟨g7, 0, none⟩) (q.length + 1 + 1) cap7)) (s.enter u) (q ++ [((z : Int), t + 1)] ++ [((u : Int), 0)]) g7 cap7 wk ov) :=
      HS6.out.setPath (by simpa using ho7) hk7' hg7' (by simp)
    have HKW8 : Hid (Kp (fun j => bb ≤ j) w (w7.setCell ⟨bb, 7, none⟩ (.slice (some ⟨g7, 0, none⟩) (q.length + 1 + 1) cap7))) := kp_fromSet (kp_from HKW6.out hk7' (fun j e => by omega)) (Nat.le_refl _)
    clear hk7 hg7 hg7' HOW6 c7 hb7 hk7' HS6 HKW6 ho7
    go_wp2_with fail
    generalize w7.setCell ⟨bb, 7, none⟩ (Value.slice (some ⟨g7, 0, none⟩) (q.length + 1 + 1) cap7) = w8 at HS8 HKW8 ⊢
    refine ⟨?_, ?_⟩
    · unfold WI
      exact ⟨_, _, _, _, _, _, _, _, _, _, _, _, _, _, _, _, _, _, _, _, _, _, _, _, _, _, _, _, _, _, _, _, _, _, _, _, _, _, _, _, _, _, _, _, _, _, _, _, _, _, _, _, _, _, _, _, _, _, _, _, _, _, _, _, _, _, _, _, _, _, _, _, _, _, _, _, _, _, _, _, _, _, _, _, _, _, _, _, _, _, _, _, _, _, _, _, _, _, _, _, _, _, _, _, _, _, _, _, _, _, _, _, _, _, _, _, _, _, _, _, _, _, _, _, _, _, _, _, _, _, _, _, _, _, _, _, _, _, _, _, _, _, _, _, _, _, _, _, _, _, _, _, _, _, _, _, _, _, _, _, _, _, _, _, _, _, _, _, _, _, _, _, _, _, _, _, _, _, _, _, _, _, _, _, _, _, _, _, _, _, _, _, _, _, _, ⟨_, _, _, _, _, _, HS8.out, HPI.out.take HADK.out HAT0.out HLN.out (by omega) (by omega), HKW8.out⟩, rfl⟩
    · rw [meas_eq (deg es) HS8.out.len HS8.out.left HS8.out.path HS8.out.box, HM.out]
      exact m_take (deg es) es.length s.left q z t u (by rw [HDEG.out]; exact htl) hu0 HLN.out (by have := HAT0.out; simpa [St.at] using this)
  · have hzb : (s.left[u] == 0) = false := by simpa using hzero
    have HAT0 : Hid (s.at u ≠ 0) := by rw [HAT.out]; exact hzero
    clear hzero HAT
    go_wp2_with fail
    refine ⟨?_, ?_⟩
    · unfold WI
      exact ⟨_, _, _, _, _, _, _, _, _, _, _, _, _, _, _, _, _, _, _, _, _, _, _, _, _, _, _, _, _, _, _, _, _, _, _, _, _, _, _, _, _, _, _, _, _, _, _, _, _, _, _, _, _, _, _, _, _, _, _, _, _, _, _, _, _, _, _, _, _, _, _, _, _, _, _, _, _, _, _, _, _, _, _, _, _, _, _, _, _, _, _, _, _, _, _, _, _, _, _, _, _, _, _, _, _, _, _, _, _, _, _, _, _, _, _, _, _, _, _, _, _, _, _, _, _, _, _, _, _, _, _, _, _, _, _, _, _, _, _, _, _, _, _, _, _, _, _, _, _, _, _, _, _, _, _, _, _, _, _, _, _, _, _, _, _, _, _, _, _, _, _, _, _, _, _, _, _, _, _, _, _, _, _, _, _, _, _, _, _, _, _, _, _, _, _, ⟨_, _, _, _, _, _, HS5.out, HPI.out.skip HADK.out HAT0.out, HKW5.out⟩, rfl⟩
    · rw [meas_eq (deg es) HS5.out.len HS5.out.left HS5.out.path HS5.out.box, HM.out]
      exact m_skip (deg es) es.length s.left q z t (by rw [HDEG.out]; exact htl)
end Go.Proofs.Qxb6003663a
