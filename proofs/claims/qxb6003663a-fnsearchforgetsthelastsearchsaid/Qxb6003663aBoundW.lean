/-
  The bound's record; zzNewBound.
-/
import Derived.Test.Qxb6003663aCopyW
import Derived.Test.Qxb6003663aLeaf
namespace Go.Proofs.Qxb6003663a
open Go.RowKit

/-- What a search leaves alone in the record. -/
structure Fx where
  ev : Value
  x1 : Value
  x2 : Value
  x3 : Value
  lf : Value
  ps : Value
  ln : Value
  x10 : Value
  x11 : Value
  x12 : Value
  x13 : Value
def Fx.row (f : Fx) (wk : Int) (ov pv : Value) : List Value := [f.ev, f.x1, f.x2, f.x3, .int .i64 wk, f.lf, ov, pv, f.ps, f.ln, f.x10, f.x11, f.x12, f.x13]
def Bx (w : World) (bb : Nat) (f : Fx) (wk : Int) (ov pv : Value) : Prop := Own vc 1 w 59 bb 14 (f.row wk ov pv)

section
variable {w : World} {bb : Nat} {f : Fx} {wk : Int} {ov pv : Value}
theorem Bx.get (h : Bx w bb f wk ov pv) {i : Nat} (hi : i < 14) : w.cell? ⟨bb, i, none⟩ = some (f.row wk ov pv)[i] := Own.cell (p := fun v => v) (fun _ => rfl) h hi
theorem Bx.c0 (h : Bx w bb f wk ov pv) : w.cell? ⟨bb, 0, none⟩ = some f.ev := h.get (i := 0) (by omega)
theorem Bx.c4 (h : Bx w bb f wk ov pv) : w.cell? ⟨bb, 4, none⟩ = some (.int .i64 wk) := h.get (i := 4) (by omega)
theorem Bx.c5 (h : Bx w bb f wk ov pv) : w.cell? ⟨bb, 5, none⟩ = some f.lf := h.get (i := 5) (by omega)
theorem Bx.c6 (h : Bx w bb f wk ov pv) : w.cell? ⟨bb, 6, none⟩ = some ov := h.get (i := 6) (by omega)
theorem Bx.c7 (h : Bx w bb f wk ov pv) : w.cell? ⟨bb, 7, none⟩ = some pv := h.get (i := 7) (by omega)
theorem Bx.c8 (h : Bx w bb f wk ov pv) : w.cell? ⟨bb, 8, none⟩ = some f.ps := h.get (i := 8) (by omega)
theorem Bx.c9 (h : Bx w bb f wk ov pv) : w.cell? ⟨bb, 9, none⟩ = some f.ln := h.get (i := 9) (by omega)
theorem Bx.kp {S : Nat → Prop} {w' : World} (h : Bx w bb f wk ov pv) (q : Kp S w w') (hn : ¬ S bb) : Bx w' bb f wk ov pv := Own.kp h q hn
theorem Bx.lt (h : Bx w bb f wk ov pv) : bb < w.heap.size := Own.lt h
end

def slc (g n : Nat) : Value := .slice (some ⟨g, 0, none⟩) n n

theorem Try.size55 : (Try.prog.info? 55).map (·.size) = some 1 := by kernel_rfl
theorem Try.size51 : (Try.prog.info? 51).map (·.size) = some 1 := by kernel_rfl
def fx0 (ev x1 lf ps ln x11 x12 : Value) : Fx := ⟨ev, x1, .int .i64 0, .slice none 0 0, lf, ps, ln, .slice none 0 0, x11, x12, .int .i64 0⟩
abbrev nl : Value := .slice none 0 0

set_option maxHeartbeats 4000000 in
set_option maxRecDepth 100000 in
theorem newBound_calls (B : Nat → Prop) (v : Value) (es : List (List Int)) (w : World) (hg : Gr B w v es) (hf : Fits es) :
    Calls Try.prog 32 #[v, .slice none 0 0, .int .i64 0] w fun r w' => ∃ (bb N gl gp gq : Nat) (f : Fx), r = .returned (.pointer (some ⟨bb, 0, none⟩)) ∧ w.heap.size ≤ bb ∧ bb < N ∧ N ≤ gl ∧ gl < gp ∧ gp < gq ∧
      Gr (fun b => bb < b ∧ b < N) w' f.ev es ∧ f.lf = slc gl es.length ∧ f.ps = slc gp es.length ∧ f.ln = slc gq es.length ∧ Own ic 1 w' 21 gl es.length (List.replicate es.length 0) ∧
      Own nc 1 w' 3 gp es.length (List.replicate es.length 0) ∧ Own nc 1 w' 3 gq es.length (List.replicate es.length 0) ∧ Bx w' bb f 0 (.slice none 0 0) (.slice none 0 0) ∧ Kp No w w' := by
  obtain ⟨a, c, rfl⟩ := hg.slice
  have hn := hf.1
  have HF : Hid (Fits es) := hf
  have HG : Hid (Gr B w (.slice a es.length c) es) := hg
  clear hf hg
  go_enter Try.func32, Try.ntmps32
  go_upto_region 3 with fail
  have hb0 : Bx (w.alloc (Obj.cells ((fx0 nl nl nl nl nl nl nl).row 0 nl nl).toArray 59)) w.heap.size (fx0 nl nl nl nl nl nl nl) 0 nl nl :=
    (own_iff vc_len).2 ⟨_, heap_alloc_new _ _, by simp [Fx.row], by simp [maxLen], by simp [Fx.row], by simp [Fx.row, vc]⟩
  have hk0 : Kp No w (w.alloc (Obj.cells ((fx0 nl nl nl nl nl nl nl).row 0 nl nl).toArray 59)) := (Kp.refl No w).alloc _
  simp only [fx0, Fx.row] at hb0 hk0
  generalize (w.alloc _) = w0 at hb0 hk0 ⊢
  have hlt0 := hb0.lt
  obtain ⟨ge, hge⟩ : ∃ ge, w0.heap.size = ge := ⟨_, rfl⟩
  go_upto_region 4 with (first
    | (at_make; refine wpList_make_row rfl _ _ 55 rfl vc_len 56 (.slice none 0 0) _ 24 Try.underlying55 Try.info56 rfl es.length _ rfl rfl rfl (by omega) (by omega) ?_; intro w1 ho1 hk1; rw [hge] at ho1 ⊢; have hb1 := Own.kp hb0 hk1 (no_not _))
    | (refine wpList_store_own rfl 55 _ _ rfl vc_len 59 w.heap.size 14 ((fx0 nl nl nl nl nl nl nl).row 0 nl nl) 0 (slc ge es.length) _ rfl (by rfl) _ rfl rfl (slice_one _ _ _) Try.size55 (by exact hb1) (by exact (by decide : 0 < 14)) ?_; intro w2 hc2 hk2))
  have hb2 : Bx w2 w.heap.size (fx0 (slc ge es.length) nl nl nl nl nl nl) 0 nl nl := hc2
  have ho2 := ho1.kp hk2 (fun e => by omega)
  have hk02 : Kp No w w2 := (hk0.then hk1).trans hk2 (fun j hj e => by omega)
  have hlt2 := ho2.lt
  clear hb0 hk0 hb1 hk1 ho1 hc2 hk2
  obtain ⟨gw, hgw⟩ : ∃ gw, w2.heap.size = gw := ⟨_, rfl⟩
  go_upto_region 5 with (first
    | (at_make; refine wpList_make_row rfl _ _ 55 rfl vc_len 56 (.slice none 0 0) _ 24 Try.underlying55 Try.info56 rfl es.length _ rfl rfl rfl (by omega) (by omega) ?_; intro w3 ho3 hk3; rw [hgw] at ho3 ⊢; have hb3 := Own.kp hb2 hk3 (no_not _))
    | (refine wpList_store_own rfl 55 _ _ rfl vc_len 59 w.heap.size 14 ((fx0 (slc ge es.length) nl nl nl nl nl nl).row 0 nl nl) 1 (slc gw es.length) _ rfl (by rfl) _ rfl rfl (slice_one _ _ _) Try.size55 (by exact hb3) (by exact (by decide : 1 < 14)) ?_; intro w4 hc4 hk4))
  have hb4 : Bx w4 w.heap.size (fx0 (slc ge es.length) (slc gw es.length) nl nl nl nl nl) 0 nl nl := hc4
  have ho4 := (ho2.kp hk3 (no_not _)).kp hk4 (fun e => by omega)
  have hk04 : Kp No w w4 := (hk02.then hk3).trans hk4 (fun j hj e => by omega)
  clear hb2 hb3 hk3 ho3 hc4 hk4 ho2 hk02
  go_wp2_with fail
  go_loopw [9] (fun t w' => ∃ (i : Nat) (vs : List Value), i ≤ es.length ∧ Hid (Laid (fun b => ge < b) w' es vs i) ∧ t = .int .i64 i ∧ Own vc 1 w' 56 ge es.length vs ∧ Bx w' w.heap.size (fx0 (slc ge es.length) (slc gw es.length) nl nl nl nl nl) 0 nl nl ∧ Kp No w w') (fun t _ => es.length - (intOf t).toNat)
  case atStart => exact ⟨0, _, by omega, Laid.zero, rfl, ho4, hb4, hk04⟩
  case round =>
    clear ho4 hb4 hk04
    obtain ⟨i, vs, hi, HLA, rfl, ho, hb, hk⟩ := hrel
    by_cases hlt : i < es.length
    · obtain ⟨b, o, y, d, bi, rfl, -, hc, -, hs⟩ := (HG.out.kp hk (fun _ _ => no_not _)).list hlt
      have hll := HF.out.2 es[i] (List.getElem_mem hlt)
      have hvl : i < vs.length := by rw [HLA.out.len]; exact hlt
      have hsz := ho.lt
      have hc0 := hb.c0
      simp only [fx0, slc] at hc0
      generalize hLe : es[i] = l at hc hll hs
      have HE : Hid (es[i] = l) := hLe
      clear hLe
      have HS : Hid (Sl ic 1 wr bi (.slice y l.length d) l) := hs
      have hiw : ¬ ((i : Int) < 0) := by omega
      clear hs
      go_wp2_with fail
      refine wp_region_two [3, 21, 50] 3 9 [0, 1, 2, 4, 5, 6, 7, 8, 9, 3, 10, 11] Try.mixed (by kernel_rfl) ?_ ?_
      · go_wp2_with fail
        refine (vertices_calls _ bi l _ (by exact HS.out) (by omega)).mono ?_
        rintro r w5 ⟨v5, b5, rfl, hs5, hb5, hk5⟩
        obtain ⟨a5, c5, rfl, -⟩ := id hs5
        have ho5 := ho.kp hk5.undrew (no_not _)
        go_wp2_with (refine wpList_store_own rfl 56 _ _ rfl vc_len 56 ge es.length vs i (.slice a5 l.length c5) _ rfl (by simp) _ rfl rfl (slice_one _ _ _) Try.size56 (by exact ho5) hvl ?_; intro w6 ho6 hk6)
        refine ⟨by kernel_rfl, ?_⟩
        go_wp2_with fail
        go_roundw
        case rel =>
          have hsz5 : wr.heap.size ≤ b5 := hb5
          refine ⟨i + 1, _, by omega, ?_, by go_num, ho6, (hb.kp hk5.undrew (no_not _)).kp hk6 (fun e => by omega), (hk.then hk5.undrew).trans hk6 (fun j hj e => by omega)⟩
          refine ((HLA.out.kp hk5.undrew (fun _ _ _ => no_not _)).kp hk6 (fun b hb _ e => by omega)).put hlt (bj := b5) (fun _ => by omega) ?_
          rw [HE.out]
          exact hs5.kp hk6 (fun e => by omega)
        case measure => simp [intOf]; omega
      · simp only [pick, List.map_cons, List.map_nil, nth]
        go_wp2_with fail
        refine (vertices_calls _ bi l _ (by exact HS.out) (by omega)).mono ?_
        rintro r w5 ⟨v5, b5, rfl, hs5, hb5, hk5⟩
        obtain ⟨a5, c5, rfl, -⟩ := id hs5
        have ho5 := ho.kp hk5.undrew (no_not _)
        have hc5 := hk5.undrew.cell hc0 (no_not _)
        go_wp2_with (refine wpList_store_own rfl 56 _ _ rfl vc_len 56 ge es.length vs i (.slice a5 l.length c5) _ rfl (by simp) _ rfl rfl (slice_one _ _ _) Try.size56 (by exact ho5) hvl ?_; intro w6 ho6 hk6)
        refine ⟨by kernel_rfl, ?_⟩
        go_wp2_with fail
        go_roundw
        case rel =>
          have hsz5 : wr.heap.size ≤ b5 := hb5
          refine ⟨i + 1, _, by omega, ?_, by go_num, ho6, (hb.kp hk5.undrew (no_not _)).kp hk6 (fun e => by omega), (hk.then hk5.undrew).trans hk6 (fun j hj e => by omega)⟩
          refine ((HLA.out.kp hk5.undrew (fun _ _ _ => no_not _)).kp hk6 (fun b hb _ e => by omega)).put hlt (bj := b5) (fun _ => by omega) ?_
          rw [HE.out]
          exact hs5.kp hk6 (fun e => by omega)
        case measure => simp [intOf]; omega
    · have hie : i = es.length := by omega
      subst hie
      have hgr := (HLA.out.gr ho (C := fun b => ge ≤ b) (fun b hb => by omega) (Nat.le_refl _)).mono (C := fun b => w.heap.size < b ∧ b < wr.heap.size) (fun b hb h => ⟨by omega, hb⟩)
      have HGR : Hid (Gr (fun b => w.heap.size < b ∧ b < wr.heap.size) wr (slc ge es.length) es) := hgr
      clear hgr HLA
      have hsz := ho.lt
      clear ho
      obtain ⟨gl, hgl⟩ : ∃ gl, wr.heap.size = gl := ⟨_, rfl⟩
      go_upto_region 12 with (first
        | (at_make; refine wpList_make_row rfl _ _ 33 rfl ic_len 21 0 _ 4 Try.underlying33 Try.info21 rfl es.length _ rfl rfl rfl (by omega) (by omega) ?_; intro w1 ho1 hk1; rw [hgl] at ho1 ⊢; have hb1 := Own.kp hb hk1 (no_not _))
        | (refine wpList_store_own rfl 33 _ _ rfl vc_len 59 w.heap.size 14 ((fx0 (slc ge es.length) (slc gw es.length) nl nl nl nl nl).row 0 nl nl) 5 (slc gl es.length) _ rfl (by rfl) _ rfl rfl (slice_one _ _ _) Try.size33 (by exact hb1) (by exact (by decide : 5 < 14)) ?_; intro w2 hc2 hk2))
      have hb2 : Bx w2 w.heap.size (fx0 (slc ge es.length) (slc gw es.length) (slc gl es.length) nl nl nl nl) 0 nl nl := hc2
      have hol2 := ho1.kp hk2 (fun e => by omega)
      have hk12 := (hk1.no (fun j => j = w.heap.size)).trans hk2 (fun j hj e => e)
      have hl2 := hol2.lt
      clear hk1 hk2 hb1 hc2 ho1
      obtain ⟨gp, hgp⟩ : ∃ gp, w2.heap.size = gp := ⟨_, rfl⟩
      go_upto_region 13 with (first
        | (at_make; refine wpList_make_row rfl _ _ 51 rfl nc_len 3 0 _ 8 Try.underlying51 Try.info3 rfl es.length _ rfl rfl rfl (by omega) (by omega) ?_; intro w3 ho3 hk3; rw [hgp] at ho3 ⊢; have hb3 := Own.kp hb2 hk3 (no_not _))
        | (refine wpList_store_own rfl 51 _ _ rfl vc_len 59 w.heap.size 14 ((fx0 (slc ge es.length) (slc gw es.length) (slc gl es.length) nl nl nl nl).row 0 nl nl) 8 (slc gp es.length) _ rfl (by rfl) _ rfl rfl (slice_one _ _ _) Try.size51 (by exact hb3) (by exact (by decide : 8 < 14)) ?_; intro w4 hc4 hk4))
      have hb4 : Bx w4 w.heap.size (fx0 (slc ge es.length) (slc gw es.length) (slc gl es.length) (slc gp es.length) nl nl nl) 0 nl nl := hc4
      have hol4 := (hol2.kp hk3 (no_not _)).kp hk4 (fun e => by omega)
      have hop4 := ho3.kp hk4 (fun e => by omega)
      have hk14 := (hk12.then hk3).trans hk4 (fun j hj e => e)
      have hl4 := hop4.lt
      clear hk3 hk4 hb3 hc4 ho3 hol2 hk12 hb2
      obtain ⟨gq, hgq⟩ : ∃ gq, w4.heap.size = gq := ⟨_, rfl⟩
      go_upto_region 14 with (first
        | (at_make; refine wpList_make_row rfl _ _ 51 rfl nc_len 3 0 _ 8 Try.underlying51 Try.info3 rfl es.length _ rfl rfl rfl (by omega) (by omega) ?_; intro w5 ho5 hk5; rw [hgq] at ho5 ⊢; have hb5 := Own.kp hb4 hk5 (no_not _))
        | (refine wpList_store_own rfl 51 _ _ rfl vc_len 59 w.heap.size 14 ((fx0 (slc ge es.length) (slc gw es.length) (slc gl es.length) (slc gp es.length) nl nl nl).row 0 nl nl) 9 (slc gq es.length) _ rfl (by rfl) _ rfl rfl (slice_one _ _ _) Try.size51 (by exact hb5) (by exact (by decide : 9 < 14)) ?_; intro w6 hc6 hk6))
      have hb6 : Bx w6 w.heap.size (fx0 (slc ge es.length) (slc gw es.length) (slc gl es.length) (slc gp es.length) (slc gq es.length) nl nl) 0 nl nl := hc6
      have hol6 := (hol4.kp hk5 (no_not _)).kp hk6 (fun e => by omega)
      have hop6 := (hop4.kp hk5 (no_not _)).kp hk6 (fun e => by omega)
      have hoq6 := ho5.kp hk6 (fun e => by omega)
      have hk16 := (hk14.then hk5).trans hk6 (fun j hj e => e)
      have hl6 := hoq6.lt
      clear hk5 hk6 hb5 hc6 ho5 hol4 hop4 hk14 hb4
      obtain ⟨gx, hgx⟩ : ∃ gx, w6.heap.size = gx := ⟨_, rfl⟩
      go_upto_region 15 with (first
        | (at_make; refine wpList_make_row rfl _ _ 51 rfl nc_len 3 0 _ 8 Try.underlying51 Try.info3 rfl es.length _ rfl rfl rfl (by omega) (by omega) ?_; intro w7 ho7 hk7; rw [hgx] at ho7 ⊢; have hb7 := Own.kp hb6 hk7 (no_not _))
        | (refine wpList_store_own rfl 51 _ _ rfl vc_len 59 w.heap.size 14 ((fx0 (slc ge es.length) (slc gw es.length) (slc gl es.length) (slc gp es.length) (slc gq es.length) nl nl).row 0 nl nl) 11 (slc gx es.length) _ rfl (by rfl) _ rfl rfl (slice_one _ _ _) Try.size51 (by exact hb7) (by exact (by decide : 11 < 14)) ?_; intro w8 hc8 hk8))
      have hb8 : Bx w8 w.heap.size (fx0 (slc ge es.length) (slc gw es.length) (slc gl es.length) (slc gp es.length) (slc gq es.length) (slc gx es.length) nl) 0 nl nl := hc8
      have hol8 := (hol6.kp hk7 (no_not _)).kp hk8 (fun e => by omega)
      have hop8 := (hop6.kp hk7 (no_not _)).kp hk8 (fun e => by omega)
      have hoq8 := (hoq6.kp hk7 (no_not _)).kp hk8 (fun e => by omega)
      have hk18 := (hk16.then hk7).trans hk8 (fun j hj e => e)
      have hl8 := (ho7.kp hk8 (fun e => by omega)).lt
      clear hk7 hk8 hb7 hc8 ho7 hol6 hop6 hoq6 hk16 hb6
      obtain ⟨gy, hgy⟩ : ∃ gy, w8.heap.size = gy := ⟨_, rfl⟩
      go_wp2_with (first
        | (at_make; refine wpList_make_row rfl _ _ 51 rfl nc_len 3 0 _ 8 Try.underlying51 Try.info3 rfl es.length _ rfl rfl rfl (by omega) (by omega) ?_; intro w9 ho9 hk9; rw [hgy] at ho9 ⊢; have hb9 := Own.kp hb8 hk9 (no_not _))
        | (refine wpList_store_own rfl 51 _ _ rfl vc_len 59 w.heap.size 14 ((fx0 (slc ge es.length) (slc gw es.length) (slc gl es.length) (slc gp es.length) (slc gq es.length) (slc gx es.length) nl).row 0 nl nl) 12 (slc gy es.length) _ rfl (by rfl) _ rfl rfl (slice_one _ _ _) Try.size51 (by exact hb9) (by exact (by decide : 12 < 14)) ?_; intro w10 hc10 hk10))
      have hb10 : Bx w10 w.heap.size (fx0 (slc ge es.length) (slc gw es.length) (slc gl es.length) (slc gp es.length) (slc gq es.length) (slc gx es.length) (slc gy es.length)) 0 nl nl := hc10
      have hol10 := (hol8.kp hk9 (no_not _)).kp hk10 (fun e => by omega)
      have hop10 := (hop8.kp hk9 (no_not _)).kp hk10 (fun e => by omega)
      have hoq10 := (hoq8.kp hk9 (no_not _)).kp hk10 (fun e => by omega)
      have hk110 := (hk18.then hk9).trans hk10 (fun j hj e => e)
      go_ret
      exact ⟨w.heap.size, gl, gl, gp, gq, _, rfl, Nat.le_refl _, by omega, Nat.le_refl _, by omega, by omega, (hgl ▸ HGR.out).kp hk110 (fun b hb e => by omega), rfl, rfl, rfl, hol10, hop10, hoq10, hb10, hk.trans hk110 (fun j hj e => by omega)⟩
end Go.Proofs.Qxb6003663a
