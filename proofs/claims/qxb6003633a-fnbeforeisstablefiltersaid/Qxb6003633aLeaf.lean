/-
  The contracts of the small functions: bytes, clone, the rows' conversion, the count.
-/
import Derived.Test.Qxb6003633aBase
namespace Go.Proofs.Qxb6003633a
open Go.RowKit

theorem at_row {w : World} {b : Nat} {l : List Value} {t : TypeId} {fz : Nat × Nat} (h : w.heap[b]? = some (.cells l.toArray t fz)) : At w b 0 l := by
  intro j v hv
  rw [Nat.zero_add]
  simp [World.cell?, h, hv]

theorem Sl.kp0 {α : Type} {f : α → List Value} {k : Nat} {S : Nat → Prop} {w w' : World} {b : Nat} {v : Value} {es : List α} (h : Sl f k w b v es) (q : Kp S w w') (hn : 0 < es.length → ¬ S b) : Sl f k w' b v es := by
  obtain ⟨a, c, rfl, h⟩ := h
  exact ⟨a, c, rfl, fun i hi => let ⟨o, ha, he⟩ := h i hi; ⟨o, ha, he.kp q (hn (by omega))⟩⟩
theorem Sl.lt {w : World} {b : Nat} {v : Value} {es : List Rw} (h : Sl Rw.cells 4 w b v es) (h0 : 0 < es.length) : b < w.heap.size := by
  obtain ⟨a, c, rfl, h⟩ := h
  obtain ⟨o, _, he⟩ := h 0 h0
  exact World.block_lt_of_cell? w _ (rw_at he).1
theorem sl_one {w : World} {b c : Nat} {t : TypeId} {fz : Nat × Nat} {e : Rw} (h : w.heap[b]? = some (.cells e.cells.toArray t fz)) : Sl Rw.cells 4 w b (.slice (some ⟨b, 0, none⟩) 1 c) [e] := by
  refine ⟨some ⟨b, 0, none⟩, c, rfl, fun i hi => ⟨0, rfl, ?_⟩⟩
  obtain rfl : i = 0 := by simp at hi; omega
  exact at_row h
theorem Sl.get {w : World} {b n c : Nat} {a : Option Addr} {es : List Rw} (h : Sl Rw.cells 4 w b (.slice a n c) es) {i : Nat} (hi : i < es.length) : ∃ o, a = some ⟨b, o, none⟩ ∧ At w b (o + i * 4) es[i].cells := by
  obtain ⟨a', c', he, hh⟩ := h
  simp only [Value.slice.injEq] at he
  obtain ⟨rfl, _, _⟩ := he
  exact hh i hi
theorem own_one {α : Type} {f : α → List Value} {k : Nat} {w : World} {t : TypeId} {g : Nat} {x : α} (hf : ∀ a, (f a).length = k) : Own f k w t g 1 [x] ↔ w.heap[g]? = some (.cells (f x).toArray t (0, 0)) := by
  rw [own_iff hf]
  constructor
  · rintro ⟨cur, hg, _, _, h3, h4⟩
    simp at h3 h4
    rw [List.take_of_length_le (by simp [h3])] at h4
    rw [hg, ← h4]
  · intro h
    exact ⟨_, h, by simp, by simp [maxLen], by simp [hf], by simp; rw [List.take_of_length_le (by rw [hf]; omega)]⟩

set_option maxHeartbeats 400000 in
theorem bytes5_calls (a : Option Addr) (n c : Nat) (x : Int) (w : World) (hn : n ≤ maxLen) :
    Calls Try.prog 13 #[.slice a n c, .int .i64 x] w fun r w' => ∃ rb, r = .returned (.bool rb) ∧ Kp No w w' := by
  unfold maxLen at hn
  by_cases h : n ≤ 1048576
  · go_enter Try.func13, Try.ntmps13
    go_wp2
    go_ret
    exact ⟨_, rfl, Kp.refl No w⟩
  · have h' : 1048576 < n := by omega
    go_enter Try.func13, Try.ntmps13
    go_wp2
    go_ret
    exact ⟨_, rfl, Kp.refl No w⟩

set_option maxHeartbeats 400000 in
theorem bytes6_calls (a : Option Addr) (n c : Nat) (x y : Int) (w : World) (hn : n ≤ maxLen) :
    Calls Try.prog 18 #[.slice a n c, .int .i64 x, .int .i64 y] w fun r w' => ∃ rb, r = .returned (.bool rb) ∧ Kp No w w' := by
  unfold maxLen at hn
  by_cases h : n ≤ 1048576
  · go_enter Try.func18, Try.ntmps18
    go_wp2
    go_ret
    exact ⟨_, rfl, Kp.refl No w⟩
  · have h' : 1048576 < n := by omega
    go_enter Try.func18, Try.ntmps18
    go_wp2
    go_ret
    exact ⟨_, rfl, Kp.refl No w⟩

set_option maxHeartbeats 1000000 in
theorem clone_calls (v : Value) (b : Nat) (rs : List Rw) (w : World) (hs : Sl Rw.cells 4 w b v rs) (hn : rs.length ≤ 50000) :
    Calls Try.prog 14 #[v] w fun r w' => ∃ v' b', r = .returned v' ∧ Sl Rw.cells 4 w' b' v' rs ∧ w.heap.size ≤ b' ∧ Kp No w w' := by
  have hs0 := hs
  obtain ⟨a, c, rfl, hat⟩ := hs
  have hnil := run_eql_nil (P := Try.prog) 27 72 Try.underlying27
  cases a with
  | none =>
    have h0 : rs = [] := by
      rcases Nat.eq_zero_or_pos rs.length with h | h
      · exact List.eq_nil_of_length_eq_zero h
      · obtain ⟨_, h, _⟩ := hat 0 h; cases h
    subst h0
    go_enter Try.func14, Try.ntmps14
    go_wp2
    go_ret
    exact ⟨_, w.heap.size, rfl, ⟨none, 0, rfl, fun i hi => by simp at hi⟩, Nat.le_refl _, Kp.refl _ _⟩
  | some ad =>
    clear hat
    go_enter Try.func14, Try.ntmps14
    go_wp2_with (at_make; refine wpList_make_row rfl _ _ 27 rfl rw_len 72 zeroRw zeroRw.val 32 Try.underlying27 Try.info72 rfl rs.length _ rfl rfl rfl (by omega) (by omega) ?_; intro w1 ho1 hk1)
    have hlt0 : 0 < rs.length → b < w.heap.size := fun h => hs0.lt h
    go_loopw [4] (fun t w' => ∃ (i : Nat) (zs : List Rw), i ≤ rs.length ∧ zs.length = rs.length ∧ (∀ j (h : j < rs.length) (h2 : j < zs.length), j < i → zs[j] = rs[j]) ∧ t = .int .i64 i ∧ Own Rw.cells 4 w' 72 w.heap.size rs.length zs ∧ Kp (fun k => k = w.heap.size) w w') (fun t _ => rs.length - (intOf t).toNat)
    case atStart => exact ⟨0, _, by omega, by simp, fun j _ _ h => by omega, rfl, ho1, hk1.no _⟩
    case round =>
      clear ho1 hk1
      obtain ⟨i, zs, hi, hl, heq, rfl, ho, hk⟩ := hrel
      have HEQ : Hid (∀ j (h : j < rs.length) (h2 : j < zs.length), j < i → zs[j] = rs[j]) := heq
      have HL : Hid (zs.length = rs.length) := hl
      clear heq hl
      by_cases hlt : i < rs.length
      · obtain ⟨o, ha, hat⟩ := hs0.get hlt
        cases ha
        obtain ⟨p0, p1, p2, p3⟩ := rw_at (hat.kp hk (fun e => by have := hlt0 (by omega); omega))
        have HS : Hid (Sl Rw.cells 4 w b _ rs) := hs0
        clear hs0 hat
        go_wp2_with (refine wpList_store_own rfl 72 _ _ rfl rw_len 72 w.heap.size rs.length zs i rs[i] _ rfl (by rfl) rs[i].val rfl rfl (rw_one _) Try.size72 (by exact ho) (by rw [HL.out]; exact hlt) ?_; intro w2 ho2 hk2)
        go_roundw
        case rel =>
          refine ⟨i + 1, zs.set i rs[i], by omega, by rw [List.length_set]; exact HL.out, ?_, by go_num, ho2, hk.trans hk2 (fun _ _ h => h)⟩
          intro j h1 h2 hji
          rw [List.getElem_set]
          by_cases e : i = j
          · subst e; simp
          · rw [if_neg e]; exact HEQ.out j h1 (by simpa using h2) (by omega)
        case measure => simp [intOf]; omega
      · have hzs : zs = rs := List.ext_getElem HL.out (fun j h1 h2 => HEQ.out j h2 h1 (by omega))
        rw [hzs] at ho
        clear hzs HEQ HL
        go_wp2_with fail
        go_ret
        exact ⟨_, w.heap.size, rfl, ho.sl rw_len, Nat.le_refl _, hk.mono (fun i hi e => by omega)⟩

set_option maxHeartbeats 1000000 in
theorem work_calls (v : Value) (b : Nat) (rs : List Rw) (w : World) (hs : Sl Rw.cells 4 w b v rs) (hn : rs.length ≤ 50000) :
    Calls Try.prog 15 #[v] w fun r w' => ∃ g, r = .returned (.slice (some ⟨g, 0, none⟩) rs.length rs.length) ∧ Own Rw.cells 4 w' 37 g rs.length rs ∧ w.heap.size ≤ g ∧ Kp No w w' := by
  have hs0 := hs
  obtain ⟨a, c, rfl, hat⟩ := hs
  clear hat
  go_enter Try.func15, Try.ntmps15
  go_wp2_with (at_make; refine wpList_make_row rfl _ _ 30 rfl rw_len 37 zeroRw zeroRw.val 32 Try.underlying30 Try.info37 rfl rs.length _ rfl rfl rfl (by omega) (by omega) ?_; intro w1 ho1 hk1)
  have hlt0 : 0 < rs.length → b < w.heap.size := fun h => hs0.lt h
  go_loopw [4] (fun t w' => ∃ (i : Nat) (zs : List Rw), i ≤ rs.length ∧ zs.length = rs.length ∧ (∀ j (h : j < rs.length) (h2 : j < zs.length), j < i → zs[j] = rs[j]) ∧ t = .int .i64 i ∧ Own Rw.cells 4 w' 37 w.heap.size rs.length zs ∧ Kp (fun k => k = w.heap.size) w w') (fun t _ => rs.length - (intOf t).toNat)
  case atStart => exact ⟨0, _, by omega, by simp, fun j _ _ h => by omega, rfl, ho1, hk1.no _⟩
  case round =>
    clear ho1 hk1
    obtain ⟨i, zs, hi, hl, heq, rfl, ho, hk⟩ := hrel
    have HEQ : Hid (∀ j (h : j < rs.length) (h2 : j < zs.length), j < i → zs[j] = rs[j]) := heq
    have HL : Hid (zs.length = rs.length) := hl
    clear heq hl
    by_cases hlt : i < rs.length
    · obtain ⟨o, ha, hat⟩ := hs0.get hlt
      subst ha
      obtain ⟨p0, p1, p2, p3⟩ := rw_at (hat.kp hk (fun e => by have := hlt0 (by omega); omega))
      have HS : Hid (Sl Rw.cells 4 w b _ rs) := hs0
      clear hs0 hat
      go_wp2_with fail
      refine wp_region_text [2, 3, 33] Try.mixed (by kernel_rfl) ?_
      go_wp2_with (refine wpList_store_own rfl 37 _ _ rfl rw_len 37 w.heap.size rs.length zs i rs[i] _ rfl (by rfl) rs[i].val rfl rfl (rw_one _) Try.size37 (by exact ho) (by rw [HL.out]; exact hlt) ?_; intro w2 ho2 hk2)
      refine ⟨by kernel_rfl, ?_⟩
      go_wp2_with fail
      go_roundw
      case rel =>
        refine ⟨i + 1, zs.set i rs[i], by omega, by rw [List.length_set]; exact HL.out, ?_, by go_num, ho2, hk.drew.trans hk2 (fun _ _ h => h)⟩
        intro j h1 h2 hji
        rw [List.getElem_set]
        by_cases e : i = j
        · subst e; simp
        · rw [if_neg e]; exact HEQ.out j h1 (by simpa using h2) (by omega)
      case measure => simp [intOf]; omega
    · have hzs : zs = rs := List.ext_getElem HL.out (fun j h1 h2 => HEQ.out j h2 h1 (by omega))
      rw [hzs] at ho
      clear hzs HEQ HL
      go_wp2_with fail
      go_ret
      exact ⟨w.heap.size, rfl, ho, Nat.le_refl _, hk.mono (fun i hi e => by omega)⟩

set_option maxHeartbeats 1000000 in
theorem count_calls (v : Value) (b : Nat) (rs : List Rw) (t : Int) (w : World) (hs : Sl Rw.cells 4 w b v rs) (hn : rs.length ≤ 50000) :
    Calls Try.prog 17 #[v, .int .i64 t] w fun r w' => r = .returned (.int .i64 ((bef t rs).length : Nat)) ∧ Kp No w w' := by
  have hs0 := hs
  obtain ⟨a, c, rfl, hat⟩ := hs
  clear hat
  go_enter Try.func17, Try.ntmps17
  go_wp2_with fail
  go_loopw [5, 6] (fun tc ti w' => ∃ (i n : Nat), i ≤ rs.length ∧ n = (bef t (rs.take i)).length ∧ tc = .int .i64 n ∧ ti = .int .i64 i ∧ Kp No w w') (fun _ ti _ => rs.length - (intOf ti).toNat)
  case atStart => exact ⟨0, 0, by omega, by simp [bef], rfl, rfl, Kp.refl _ _⟩
  case round =>
    obtain ⟨i, n, hi, hcn, rfl, rfl, hk⟩ := hrel
    have HC : Hid (n = (bef t (rs.take i)).length) := hcn
    have hnb : n ≤ 50000 := by
      have h1 := bef_le t rs i
      have h2 := bef_len t rs
      omega
    clear hcn
    by_cases hlt : i < rs.length
    · obtain ⟨o, ha, hat⟩ := hs0.get hlt
      subst ha
      obtain ⟨p0, p1, p2, p3⟩ := rw_at (hat.kp hk (no_not _))
      have HS : Hid (Sl Rw.cells 4 w b _ rs) := hs0
      clear hs0 hat
      have hst := bef_step t rs i hlt
      have HST : Hid (bef t (rs.take (i + 1)) = if rs[i].mon < t then bef t (rs.take i) ++ [rs[i]] else bef t (rs.take i)) := hst
      clear hst
      by_cases hc : rs[i].mon < t
      · have hd : decide (rs[i].mon < t) = true := decide_eq_true hc
        have HCC : Hid (rs[i].mon < t) := hc
        clear hc
        go_wp2_with fail
        go_roundw
        case rel =>
          refine ⟨i + 1, n + 1, by omega, ?_, by go_num, by go_num, hk⟩
          rw [HST.out, if_pos HCC.out, List.length_append, HC.out]; rfl
        case measure => simp [intOf]; omega
      · have hd : decide (rs[i].mon < t) = false := decide_eq_false hc
        have HCC : Hid (¬ rs[i].mon < t) := hc
        clear hc
        go_wp2_with fail
        go_roundw
        case rel =>
          refine ⟨i + 1, n, by omega, ?_, rfl, by go_num, hk⟩
          rw [HST.out, if_neg HCC.out, HC.out]
        case measure => simp [intOf]; omega
    · have hie : rs.take i = rs := List.take_of_length_le (by omega)
      have hnn : n = (bef t rs).length := by have := HC.out; rw [hie] at this; exact this
      clear HC hie
      have HN : Hid (n = (bef t rs).length) := hnn
      clear hnn
      go_wp2_with fail
      go_ret
      rw [← HN.out]
      exact ⟨rfl, hk⟩
end Go.Proofs.Qxb6003633a
