import Derived.Test.Qxb6003632aPushW
namespace Go.Proofs.Qxb6003632a
open Go.RowKit

def lessAt (hs : List Ev) (a b : Nat) : Bool := if h : a < hs.length ∧ b < hs.length then keyLess hs[a] hs[b] else false
theorem lessAt_pos {hs : List Ev} {a b : Nat} (ha : a < hs.length) (hb : b < hs.length) : lessAt hs a b = keyLess hs[a] hs[b] := dif_pos ⟨ha, hb⟩
theorem lessAt_neg {hs : List Ev} {a b : Nat} (ha : ¬ a < hs.length) : lessAt hs a b = false := dif_neg fun h => ha h.1

theorem lessAt_true {hs : List Ev} {a b : Nat} (h : lessAt hs a b = true) : ∃ (ha : a < hs.length) (hb : b < hs.length), keyLess hs[a] hs[b] = true := by
  unfold lessAt at h
  split at h
  · rename_i hh; exact ⟨hh.1, hh.2, h⟩
  · cases h
theorem lessAt_false {hs : List Ev} {a b : Nat} (h : lessAt hs a b = false) (ha : a < hs.length) (hb : b < hs.length) : le hs[b] hs[a] := by
  rw [lessAt_pos ha hb] at h; exact h

/-- Which of i and its children comes first. -/
theorem sel_spec {hs : List Ev} {i m n : Nat} (hm : m = if lessAt hs (2 * i + 1) i then 2 * i + 1 else i) (hn : n = if lessAt hs (2 * i + 2) m then 2 * i + 2 else m) :
    (n = i ∧ ∀ j (hj : j < hs.length), 1 ≤ j → ∀ (_ : (j - 1) / 2 = i), le (hs[i]'(by omega)) hs[j]) ∨
    (n ≠ i ∧ ∃ (hnl : n < hs.length) (hil : i < hs.length), (n - 1) / 2 = i ∧ 1 ≤ n ∧ keyLess hs[n] hs[i] = true ∧ ∀ j (hj : j < hs.length), 1 ≤ j → (j - 1) / 2 = i → le hs[n] hs[j]) := by
  cases h1 : lessAt hs (2 * i + 1) i
  · rw [h1] at hm
    simp only [Bool.false_eq_true, if_false] at hm
    subst hm
    cases h2 : lessAt hs (2 * m + 2) m
    · rw [h2] at hn
      simp only [Bool.false_eq_true, if_false] at hn
      refine .inl ⟨hn, fun j hj hj1 hp => ?_⟩
      have : j = 2 * m + 1 ∨ j = 2 * m + 2 := by omega
      rcases this with rfl | rfl
      · exact lessAt_false h1 hj (by omega)
      · exact lessAt_false h2 hj (by omega)
    · rw [h2] at hn
      simp only [if_true] at hn
      subst hn
      obtain ⟨ha, hb, hl⟩ := lessAt_true h2
      refine .inr ⟨by omega, ha, hb, by omega, by omega, hl, fun j hj hj1 hp => ?_⟩
      have : j = 2 * m + 1 ∨ j = 2 * m + 2 := by omega
      rcases this with rfl | rfl
      · exact le_trans (le_of_less hl) (lessAt_false h1 hj hb)
      · exact le_refl _
  · rw [h1] at hm
    simp only [if_true] at hm
    subst hm
    obtain ⟨ha, hb, hl⟩ := lessAt_true h1
    cases h2 : lessAt hs (2 * i + 2) (2 * i + 1)
    · rw [h2] at hn
      simp only [Bool.false_eq_true, if_false] at hn
      subst hn
      refine .inr ⟨by omega, ha, hb, by omega, by omega, hl, fun j hj hj1 hp => ?_⟩
      have : j = 2 * i + 1 ∨ j = 2 * i + 2 := by omega
      rcases this with rfl | rfl
      · exact le_refl _
      · exact lessAt_false h2 hj ha
    · rw [h2] at hn
      simp only [if_true] at hn
      subst hn
      obtain ⟨ha2, hb2, hl2⟩ := lessAt_true h2
      have hlt : keyLess hs[2 * i + 2] hs[i] = true := by
        rw [keyLess_iff] at hl hl2 ⊢; omega
      refine .inr ⟨by omega, ha2, hb, by omega, by omega, hlt, fun j hj hj1 hp => ?_⟩
      have : j = 2 * i + 1 ∨ j = 2 * i + 2 := by omega
      rcases this with rfl | rfl
      · exact le_of_less hl2
      · exact le_refl _

set_option maxHeartbeats 2000000 in
theorem pop_calls (bq g cap : Nat) (es : List Ev) (w : World) (h0 : 0 < es.length) (hq : Box w bq 45 (.slice (some ⟨g, 0, none⟩) es.length cap)) (hown : Own Ev.cells 7 w 48 g cap es) (hne : g ≠ bq) (hn : es.length ≤ 50000) :
    Calls Try.prog 32 #[.pointer (some ⟨bq, 0, none⟩)] w fun r w' => r = .returned es[0].val ∧ ∃ hs, hs.length + 1 = es.length ∧ Box w' bq 45 (.slice (some ⟨g, 0, none⟩) hs.length cap) ∧ Own Ev.cells 7 w' 48 g cap hs ∧
      (es[0] :: hs).Perm es ∧ (Heap es → Heap hs) ∧ Kp (fun k => k = bq ∨ k = g) w w' := by
  have hqc := hq.cell
  have hlt := hq.lt
  have hgl := hown.lt
  have hcap := hown.le ev_len
  have h3 := hown.at ev_len h0
  have h4 := hown.at ev_len (show es.length - 1 < es.length by omega)
  obtain ⟨p0, p1, p2, p3, p4, p5, p6⟩ := ev_at h3
  obtain ⟨q0, q1, q2, q3, q4, q5, q6⟩ := ev_at h4
  have hlen0 : ((es.length : Int) - 1).toNat = es.length - 1 := by omega
  go_enter Try.func32, Try.ntmps32
  go_wp2_with (refine wpList_store_own rfl 48 _ _ rfl ev_len 48 g cap es 0 es[es.length - 1] _ rfl (by rfl) es[es.length - 1].val rfl rfl (ev_one _) Try.size48 (by exact hown.kp (((Kp.refl No w).alloc _).alloc _) (no_not _)) h0 ?_; intro w2 ho2 hk2)
  have ho := (Own.take ev_len ho2 (n := es.length - 1) (by simp) : Own Ev.cells 7 w2 48 g cap (popL es h0))
  have hr1 : w2.heap[w.heap.size]? = some (.cells zeroEv.cells.toArray 48 (0, 0)) := hk2.row (heap_alloc2_old _ _ _) (by omega)
  have hr2 : w2.heap[w.heap.size + 1]? = some (.cells es[0].cells.toArray 48 (0, 0)) := hk2.row (heap_alloc2_new _ _ _) (by omega)
  have hb2 := (hq.kp (((Kp.refl No w).alloc (.cells zeroEv.cells.toArray 48)).alloc (.cells es[0].cells.toArray 48)) (no_not _)).kp hk2 (fun e => hne e.symm)
  have hkw : Kp (fun k => k = g) w w2 := (((Kp.refl _ w).alloc _).alloc _).trans hk2 (fun _ _ h => h)
  have hpl := popL_len es h0
  clear ho2 hk2 hq hqc p0 p1 p2 p3 p4 p5 p6 q0 q1 q2 q3 q4 q5 q6 hown h3 h4
  go_loopw [6] (fun t w' => ∃ (i : Nat) (hs : List Ev), hs.length = es.length - 1 ∧ (i < hs.length ∨ (hs.length = 0 ∧ i = 0)) ∧ t = .int .i64 i ∧ Own Ev.cells 7 w' 48 g cap hs ∧ (es[0] :: hs).Perm es ∧ (Heap es → Down hs i) ∧ Kp (fun k => k = g) w2 w') (fun t _ => es.length - (intOf t).toNat)
  case atStart => exact ⟨0, popL es h0, hpl, by omega, rfl, ho, popL_perm h0, down_start h0, Kp.refl _ _⟩
  case round =>
    clear ho hpl
    obtain ⟨i, hs, hl, hi, rfl, ho, hp, hd, hk⟩ := hrel
    have hl' : (hs.length : Int) = (es.length : Int) - 1 := by omega
    have HL : Hid ((hs.length : Int) = (es.length : Int) - 1) := hl'
    have HL2 : Hid (hs.length = es.length - 1) := hl
    have hib : i ≤ 50000 := by omega
    clear hl' hl
    go_wp2
    go_cut [46] (fun t w' => t = .bool (lessAt hs (2 * i + 1) i) ∧ Own Ev.cells 7 w' 48 g cap hs ∧ Kp (fun k => k = g) w2 w')
    case first =>
      by_cases hll : 2 * i + 1 < hs.length
      · have hlI : 2 * (i : Int) + 1 < (es.length : Int) - 1 := by have := HL.out; omega
        have hii : i < hs.length := by omega
        have hlI2 : (i : Int) < (es.length : Int) - 1 := by omega
        have ei : (2 * (i : Int) + 1).toNat = 2 * i + 1 := by omega
        have h3 := ho.at ev_len hll
        have h4 := ho.at ev_len hii
        refine wp_region_text [2, 3, 5, 38] Try.mixed (by kernel_rfl) ?_
        go_wp2_with fail
        refine (before_calls hs[2 * i + 1] hs[i] _ g ((2 * i + 1) * 7) g (i * 7) (by exact h3.drew) (by exact h4.drew)).mono ?_
        rintro r w3 ⟨rfl, hk3⟩
        go_wp2_with fail
        refine ⟨by kernel_rfl, ?_⟩
        go_wp2_with fail
        go_meet
        case rel => exact ⟨by rw [lessAt_pos hll hii], (show Own Ev.cells 7 wr.drew 48 g cap hs from ho).kp hk3 (no_not _), hk.drew.then hk3⟩
      · have hd : decide (2 * (i : Int) + 1 < (es.length : Int) - 1) = false := decide_eq_false (by have := HL.out; omega)
        refine wp_region_text [2, 3, 5, 38] Try.mixed (by kernel_rfl) ?_
        go_wp2_with fail
        refine ⟨by kernel_rfl, ?_⟩
        go_wp2_with fail
        go_meet
        case rel => exact ⟨by rw [lessAt_neg hll], ho, hk.drew⟩
    case rest =>
      clear ho hk
      obtain ⟨rfl, ho, hk⟩ := hcut
      go_upto_if 46 with fail
      go_cut [9] (fun t w' => ∃ m : Nat, t = .int .i64 m ∧ m = (if lessAt hs (2 * i + 1) i then 2 * i + 1 else i) ∧ Own Ev.cells 7 w' 48 g cap hs ∧ Kp (fun k => k = g) w2 w')
      case first =>
        cases hb1 : lessAt hs (2 * i + 1) i
        · go_wp2_with fail
          go_meet
          case rel => exact ⟨i, rfl, by rw [hb1]; rfl, ho, hk⟩
        · go_wp2_with fail
          go_meet
          case rel => exact ⟨2 * i + 1, by go_num, by rw [hb1]; rfl, ho, hk⟩
      case rest =>
        clear ho hk
        obtain ⟨m, rfl, hm, ho, hk⟩ := hcut
        have HM : Hid (m = if lessAt hs (2 * i + 1) i then 2 * i + 1 else i) := hm
        have hmb : m ≤ 2 * i + 1 := by rw [hm]; split <;> omega
        have hmi : i ≤ m := by rw [hm]; split <;> omega
        have hml : 2 * i + 2 < hs.length → m < hs.length := fun h => by omega
        clear hm
        go_wp2_with fail
        go_cut [59] (fun t w' => t = .bool (lessAt hs (2 * i + 2) m) ∧ Own Ev.cells 7 w' 48 g cap hs ∧ Kp (fun k => k = g) w2 w')
        case first =>
          by_cases hll : 2 * i + 2 < hs.length
          · have hlI : 2 * (i : Int) + 2 < (es.length : Int) - 1 := by have := HL.out; omega
            have hii : m < hs.length := hml hll
            have hlI2 : (m : Int) < (es.length : Int) - 1 := by omega
            have ei : (2 * (i : Int) + 2).toNat = 2 * i + 2 := by omega
            have h3 := ho.at ev_len hll
            have h4 := ho.at ev_len hii
            refine wp_region_text [2, 3, 5, 38] Try.mixed (by kernel_rfl) ?_
            go_wp2_with fail
            refine (before_calls hs[2 * i + 2] hs[m] _ g ((2 * i + 2) * 7) g (m * 7) (by exact h3.drew) (by exact h4.drew)).mono ?_
            rintro r w3 ⟨rfl, hk3⟩
            go_wp2_with fail
            refine ⟨by kernel_rfl, ?_⟩
            go_wp2_with fail
            go_meet
            case rel => exact ⟨by rw [lessAt_pos hll hii], (Own.kp (show Own Ev.cells 7 (World.drew _) 48 g cap hs from ho) hk3 (no_not _)), hk.drew.then hk3⟩
          · have hd : decide (2 * (i : Int) + 2 < (es.length : Int) - 1) = false := decide_eq_false (by have := HL.out; omega)
            refine wp_region_text [2, 3, 5, 38] Try.mixed (by kernel_rfl) ?_
            go_wp2_with fail
            refine ⟨by kernel_rfl, ?_⟩
            go_wp2_with fail
            go_meet
            case rel => exact ⟨by rw [lessAt_neg hll], ho, hk.drew⟩
        case rest =>
          clear ho hk
          obtain ⟨rfl, ho, hk⟩ := hcut
          go_upto_if 59 with fail
          go_cut [9] (fun t w' => ∃ n : Nat, t = .int .i64 n ∧ n = (if lessAt hs (2 * i + 2) m then 2 * i + 2 else m) ∧ Own Ev.cells 7 w' 48 g cap hs ∧ Kp (fun k => k = g) w2 w')
          case first =>
            cases hb1 : lessAt hs (2 * i + 2) m
            · go_wp2_with fail
              go_meet
              case rel => exact ⟨m, rfl, by rw [hb1]; rfl, ho, hk⟩
            · go_wp2_with fail
              go_meet
              case rel => exact ⟨2 * i + 2, by go_num, by rw [hb1]; rfl, ho, hk⟩
          case rest =>
            clear ho hk
            obtain ⟨n, rfl, hn', ho, hk⟩ := hcut
            have HN : Hid (n = if lessAt hs (2 * i + 2) m then 2 * i + 2 else m) := hn'
            clear hn'
            rcases sel_spec HM.out HN.out with ⟨hni, hend⟩ | ⟨hni, hnl, hil, hpar, hn1, hls, hmin⟩
            · have hbe : ((n : Int) == (i : Int)) = true := by simp; omega
              have HE : Hid (n = i) := hni
              clear hni
              have hb := hb2.kp hk (fun e => hne e.symm)
              have hbc := hb.cell
              have hbf := hb.frozen
              have hr1' := hk.row hr1 (by omega)
              have hr2' := hk.row hr2 (by omega)
              clear hr1 hr2
              go_wp2_with (first
                | (refine wpList_load_at rfl 48 _ rfl (w.heap.size + 1) 0 rfl es[0].cells (by exact (at_row hr2').kp ((Kp.refl (fun k => k = bq) _).setCell (fun _ => rfl) _) (fun e => by have : w.heap.size + 1 = bq := e; omega)) _ Try.underlying48 rfl Try.size48 ?_)
                | (refine wpList_store_own rfl 48 _ _ rfl ev_len 48 w.heap.size 1 [zeroEv] 0 es[0] _ rfl (by rfl) es[0].val rfl rfl (ev_one _) Try.size48 (by exact ((own_one ev_len).2 hr1').kp ((Kp.refl (fun k => k = bq) _).setCell (fun _ => rfl) _) (fun e => by have : w.heap.size = bq := e; omega)) (by simp) ?_; intro w5 ho5 hk5))
              refine bodyPost_ret (results_ev48 rfl _ _ _ _ es[0] rfl ((own_one ev_len).1 ho5)) rfl ⟨rfl, hs, ?_, ?_, ?_, hp, fun h => down_end (hd h) hend, ?_⟩
              · have := HL2.out; omega
              · rw [HL2.out]; exact (hb.set _).kp hk5 (fun e => by omega)
              · exact (ho.kp ((Kp.refl (fun k => k = bq) _).setCell (fun _ => rfl) _) hne).kp hk5 (fun e => by omega)
              · exact (((hkw.mono (fun _ _ h => .inr h)).trans hk (fun _ _ h => .inr h)).setCell (fun _ => .inl rfl) _).trans hk5 (fun i hi e => by omega)
            · have hbe : ((n : Int) == (i : Int)) = false := by simp; omega
              have hlI : (i : Int) < (es.length : Int) - 1 := by have := HL.out; omega
              have hlI2 : (n : Int) < (es.length : Int) - 1 := by have := HL.out; omega
              obtain ⟨p0, p1, p2, p3, p4, p5, p6⟩ := ev_at (ho.at ev_len hil)
              obtain ⟨q0, q1, q2, q3, q4, q5, q6⟩ := ev_at (ho.at ev_len hnl)
              go_wp2_with fail
              refine wp_region_text [2, 3, 5, 38] Try.mixed (by kernel_rfl) ?_
              go_wp2_with (first
                | (refine wpList_store_own rfl 48 _ _ rfl ev_len 48 g cap hs i hs[n] _ rfl (by rfl) hs[n].val rfl rfl (ev_one _) Try.size48 (by exact ho) hil ?_; intro w3 ho3 hk3)
                | (refine wpList_store_own rfl 48 _ _ rfl ev_len 48 g cap (hs.set i hs[n]) n hs[i] _ rfl (by rfl) hs[i].val rfl rfl (ev_one _) Try.size48 (by exact ho3) (by simp; omega) ?_; intro w4 ho4 hk4))
              refine ⟨by kernel_rfl, ?_⟩
              have hk' : Kp (fun k => k = g) w2 w4 := (hk.drew.trans hk3 (fun _ _ e => e)).trans hk4 (fun _ _ e => e)
              clear hk3 hk4 ho3 hk ho p0 p1 p2 p3 p4 p5 p6 q0 q1 q2 q3 q4 q5 q6
              go_wp2_with fail
              go_roundw
              case rel => exact ⟨n, swapL hs i n hil hnl, by rw [swapL_len]; exact HL2.out, .inl (by rw [swapL_len]; exact hnl), rfl, ho4, ((swapL_perm hs i n hil hnl).cons _).trans hp, fun h => down_step (hd h) hil hnl hn1 hpar hls hmin, hk'⟩
              case measure => simp [intOf]; omega

set_option maxHeartbeats 1000000 in
theorem zzPop_calls (bq g cap : Nat) (es : List Ev) (w : World) (h0 : 0 < es.length) (hq : Box w bq 45 (.slice (some ⟨g, 0, none⟩) es.length cap)) (hown : Own Ev.cells 7 w 48 g cap es) (hne : g ≠ bq) (hn : es.length ≤ 50000) :
    Calls Try.prog 20 #[.pointer (some ⟨bq, 0, none⟩)] w fun r w' => r = .returned es[0].val ∧ ∃ hs, hs.length + 1 = es.length ∧ Box w' bq 45 (.slice (some ⟨g, 0, none⟩) hs.length cap) ∧ Own Ev.cells 7 w' 48 g cap hs ∧
      (es[0] :: hs).Perm es ∧ (Heap es → Heap hs) ∧ Kp (fun k => k = bq ∨ k = g) w w' := by
  have hlt := hq.lt
  have hgl := hown.lt
  go_enter Try.func20, Try.ntmps20
  go_wp2_with fail
  have hkA := (Kp.refl No w).alloc (.cells zeroEv.cells.toArray 48)
  have hr1 : (w.alloc (.cells zeroEv.cells.toArray 48)).heap[w.heap.size]? = some (.cells zeroEv.cells.toArray 48 (0, 0)) := heap_alloc_new _ _
  refine (pop_calls bq g cap es _ h0 (hq.kp hkA (no_not _)) (hown.kp hkA (no_not _)) hne hn).mono ?_
  rintro r w1 ⟨rfl, hs, h1, h2, h3, h4, h5, h6⟩
  have hr2 := h6.row hr1 (fun e => by rcases e with e | e <;> omega)
  go_wp2_with (refine wpList_store_own rfl 48 _ _ rfl ev_len 48 w.heap.size 1 [zeroEv] 0 es[0] _ rfl (by rfl) es[0].val rfl rfl (ev_one _) Try.size48 (by exact (own_one ev_len).2 hr2) (by simp) ?_; intro w5 ho5 hk5)
  refine bodyPost_ret (results_ev48 rfl _ _ _ _ es[0] rfl ((own_one ev_len).1 ho5)) rfl ⟨rfl, hs, h1, ?_, ?_, h4, h5, ?_⟩
  · exact h2.kp hk5 (fun e => by omega)
  · exact h3.kp hk5 (fun e => by omega)
  · exact ((hkA.no _).trans h6 (fun _ _ h => h)).trans hk5 (fun i hi e => by omega)
end Go.Proofs.Qxb6003632a
