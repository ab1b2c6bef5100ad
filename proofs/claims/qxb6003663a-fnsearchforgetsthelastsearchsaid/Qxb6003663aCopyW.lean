/-
  copyEdges.
-/
import Derived.Test.Qxb6003663aGuard
namespace Go.Proofs.Qxb6003663a
open Go.RowKit

theorem slice_one (a : Option Addr) (n c : Nat) : ∀ u ∈ vc (.slice a n c), u.oneCell' = true := by
  intro u hu; simp only [vc, List.mem_singleton] at hu; subst hu; rfl

/-- The first i lists are laid, the others are nil. -/
structure Laid (B : Nat → Prop) (w : World) (es : List (List Int)) (vs : List Value) (i : Nat) : Prop where
  len : vs.length = es.length
  low : ∀ j (h : j < es.length) (h' : j < vs.length), j < i → ∃ bj, (0 < es[j].length → B bj) ∧ Sl ic 1 w bj vs[j] es[j]
  high : ∀ j (h' : j < vs.length), i ≤ j → vs[j] = .slice none 0 0

theorem Laid.kp {B S : Nat → Prop} {w w' : World} {es : List (List Int)} {vs : List Value} {i : Nat} (h : Laid B w es vs i) (q : Kp S w w') (hn : ∀ b, B b → b < w.heap.size → ¬ S b) : Laid B w' es vs i :=
  ⟨h.len, fun j h1 h2 h3 => let ⟨bj, h4, h5⟩ := h.low j h1 h2 h3; ⟨bj, h4, h5.kp0 q (fun h0 => hn _ (h4 h0) (h5.lt ic_len (by omega) h0))⟩, h.high⟩
theorem Laid.zero {B : Nat → Prop} {w : World} {es : List (List Int)} : Laid B w es (List.replicate es.length (.slice none 0 0)) 0 :=
  ⟨by simp, fun j _ _ h => by omega, fun j h' _ => by simp⟩
theorem Laid.put {B : Nat → Prop} {w : World} {es : List (List Int)} {vs : List Value} {i : Nat} (h : Laid B w es vs i) (hi : i < es.length) {v : Value} {bj : Nat} (h1 : 0 < es[i].length → B bj) (h2 : Sl ic 1 w bj v es[i]) : Laid B w es (vs.set i v) (i + 1) := by
  refine ⟨by rw [List.length_set]; exact h.len, fun j h3 h4 h5 => ?_, fun j h3 h4 => ?_⟩
  · by_cases e : i = j
    · subst e; exact ⟨bj, h1, by simpa using h2⟩
    · obtain ⟨bj, h6, h7⟩ := h.low j h3 (by rw [h.len]; exact h3) (by omega)
      exact ⟨bj, h6, by rw [List.getElem_set, if_neg e]; exact h7⟩
  · rw [List.getElem_set, if_neg (by omega)]
    exact h.high j (by simpa using h3) (by omega)
theorem Laid.skip {B : Nat → Prop} {w : World} {es : List (List Int)} {vs : List Value} {i : Nat} (h : Laid B w es vs i) (hi : i < es.length) (h0 : es[i] = []) : Laid B w es vs (i + 1) := by
  refine ⟨h.len, fun j h3 h4 h5 => ?_, fun j h3 h4 => h.high j h3 (by omega)⟩
  by_cases e : i = j
  · subst e
    refine ⟨0, fun h => by rw [h0] at h; simp at h, ?_⟩
    rw [h.high i h4 (Nat.le_refl _), h0]; exact sl_nil
  · exact h.low j h3 h4 (by omega)
theorem Laid.gr {B : Nat → Prop} {w : World} {es : List (List Int)} {vs : List Value} (h : Laid B w es vs es.length) {t : TypeId} {g cap : Nat} (ho : Own vc 1 w t g cap vs) {C : Nat → Prop} (hC : ∀ b, B b → C b) (hg : C g) : Gr C w (.slice (some ⟨g, 0, none⟩) es.length cap) es := by
  refine ⟨g, vs, fun _ => hg, ?_, h.len, fun i h1 h2 => ?_⟩
  · have := ho.sl vc_len
    rwa [h.len] at this
  · obtain ⟨bj, h3, h4⟩ := h.low i h1 h2 (by omega)
    exact ⟨bj, fun h => hC _ (h3 h), h4⟩

set_option maxHeartbeats 2000000 in
theorem copyEdges_calls (B : Nat → Prop) (v : Value) (es : List (List Int)) (w : World) (hg : Gr B w v es) (hf : Fits es) :
    Calls Try.prog 13 #[v] w fun r w' => ∃ v', r = .returned v' ∧ Gr (fun b => w.heap.size ≤ b) w' v' es ∧ Kp No w w' := by
  have hg0 := hg
  obtain ⟨a, c, rfl⟩ := hg.slice
  have hn := hf.1
  have HF : Hid (Fits es) := hf
  have HG : Hid (Gr B w (.slice a es.length c) es) := hg
  have hnil := run_eql_nil (P := Try.prog) 22 33 Try.underlying22
  have hnil2 := run_neq_nil (P := Try.prog) 33 21 Try.underlying33
  clear hf hg hg0
  cases a with
  | none =>
    have h0 : es = [] := by
      rcases Nat.eq_zero_or_pos es.length with h | h
      · exact List.eq_nil_of_length_eq_zero h
      · obtain ⟨_, _, _, _, _, h, _⟩ := HG.out.list h; cases h
    subst h0
    go_enter Try.func13, Try.ntmps13
    go_wp2_with fail
    go_ret
    exact ⟨_, rfl, ⟨0, [], fun h => by simp at h, sl_nil, rfl, fun i hi => by simp at hi⟩, Kp.refl _ _⟩
  | some ad =>
    go_enter Try.func13, Try.ntmps13
    go_wp2_with (at_make; refine wpList_make_row rfl _ _ 22 rfl vc_len 33 (.slice none 0 0) _ 24 Try.underlying22 Try.info33 rfl es.length _ rfl rfl rfl (by omega) (by omega) ?_; intro w1 ho1 hk1)
    go_loopw [4] (fun t w' => ∃ (i : Nat) (vs : List Value), i ≤ es.length ∧ Laid (fun b => w.heap.size < b) w' es vs i ∧ t = .int .i64 i ∧ Own vc 1 w' 33 w.heap.size es.length vs ∧ Kp No w w') (fun t _ => es.length - (intOf t).toNat)
    case atStart => exact ⟨0, _, by omega, Laid.zero, rfl, ho1, hk1⟩
    case round =>
      clear ho1 hk1
      obtain ⟨i, vs, hi, hla, rfl, ho, hk⟩ := hrel
      have HLA : Hid (Laid (fun b => w.heap.size < b) wr es vs i) := hla
      clear hla
      by_cases hlt : i < es.length
      · obtain ⟨b, o, y, d, bi, ha, -, hc, -, hs⟩ := (HG.out.kp hk (fun _ _ => no_not _)).list hlt
        cases ha
        have hll := HF.out.2 es[i] (List.getElem_mem hlt)
        have hvl : i < vs.length := by rw [HLA.out.len]; exact hlt
        have hsz := ho.lt
        generalize hLe : es[i] = l at hc hll hs
        have HE : Hid (es[i] = l) := hLe
        clear hLe
        have HS : Hid (Sl ic 1 wr bi (.slice y l.length d) l) := hs
        clear hs
        cases y with
        | none =>
          have hl0 : es[i] = [] := by
            rw [HE.out]
            rcases Nat.eq_zero_or_pos l.length with h | h
            · exact List.eq_nil_of_length_eq_zero h
            · obtain ⟨_, h, _⟩ := HS.out.get h; cases h
          have HL0 : Hid (es[i] = []) := hl0
          clear hl0
          go_wp2_with fail
          go_roundw
          case rel => exact ⟨i + 1, vs, by omega, HLA.out.skip hlt HL0.out, by go_num, ho, hk⟩
          case measure => simp [intOf]; omega
        | some ad2 =>
          go_wp2_with (first
            | (at_make; refine wpList_make_row rfl _ _ 33 rfl ic_len 21 0 _ 4 Try.underlying33 Try.info21 rfl l.length _ rfl rfl rfl (by omega) (by omega) ?_; intro w2 ho2 hk2; have hc2 := hk2.cell hc (no_not _))
            | (refine wpList_copy_all rfl _ _ 33 33 rfl ic_len ic_one 21 Try.underlying33 Try.size21 _ _ _ _ rfl (by exact ho2) (by simp) bi _ l rfl (by exact HS.out.kp hk2 (no_not _)) rfl ?_; intro w3 ho3 hk3; have ho4 := (ho.kp hk2 (no_not _)).kp hk3 (fun e => by omega))
            | (refine wpList_store_own rfl 33 _ _ rfl vc_len 33 w.heap.size es.length vs i (.slice (some ⟨wr.heap.size, 0, none⟩) l.length l.length) _ rfl (by simp) _ rfl rfl (slice_one _ _ _) Try.size33 (by exact ho4) hvl ?_; intro w5 ho5 hk5))
          go_roundw
          case rel =>
            refine ⟨i + 1, _, by omega, ?_, by go_num, ho5, ((hk.then hk2).trans hk3 (fun j hj e => by omega)).trans hk5 (fun j hj e => by omega)⟩
            have hk23 : Kp No wr w3 := hk2.trans hk3 (fun j hj e => by omega)
            have h6 : Laid (fun b => w.heap.size < b) w5 es vs i := (HLA.out.kp hk23 (fun _ _ _ => no_not _)).kp hk5 (fun b hb _ e => by omega)
            refine h6.put hlt (bj := wr.heap.size) (fun _ => by omega) ?_
            rw [HE.out]
            exact (ho3.sl ic_len).kp hk5 (fun e => by omega)
          case measure => simp [intOf]; omega
      · have hie : i = es.length := by omega
        subst hie
        go_wp2_with fail
        go_ret
        exact ⟨_, rfl, HLA.out.gr ho (fun b hb => by omega) (Nat.le_refl _), hk⟩
end Go.Proofs.Qxb6003663a
