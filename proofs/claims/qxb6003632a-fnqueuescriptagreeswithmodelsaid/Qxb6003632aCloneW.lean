import Derived.Test.Qxb6003632aPopW
namespace Go.Proofs.Qxb6003632a
open Go.RowKit

set_option maxHeartbeats 1000000 in
theorem cloneEvs_calls (v : Value) (b : Nat) (es : List Ev) (w : World) (hs : Sl Ev.cells 7 w b v es) (hn : es.length ≤ 50000) :
    Calls Try.prog 13 #[v] w fun r w' => ∃ v' b', r = .returned v' ∧ Sl Ev.cells 7 w' b' v' es ∧ w.heap.size ≤ b' ∧ Kp No w w' := by
  have hs0 := hs
  obtain ⟨a, c, rfl, hat⟩ := hs
  have hnil := run_eql_nil (P := Try.prog) 37 40 Try.underlying37
  cases a with
  | none =>
    have h0 : es = [] := by
      rcases Nat.eq_zero_or_pos es.length with h | h
      · exact List.eq_nil_of_length_eq_zero h
      · obtain ⟨_, h, _⟩ := hat 0 h; cases h
    subst h0
    go_enter Try.func13, Try.ntmps13
    go_wp2
    go_ret
    exact ⟨_, w.heap.size, rfl, ⟨none, 0, rfl, fun i hi => by simp at hi⟩, Nat.le_refl _, Kp.refl _ _⟩
  | some ad =>
    clear hat
    go_enter Try.func13, Try.ntmps13
    go_wp2_with (first
      | (at_make; refine wpList_make_row rfl _ _ 37 rfl ev_len 40 zeroEv zeroEv.val 48 Try.underlying37 Try.info40 rfl es.length _ rfl rfl rfl (by omega) (by omega) ?_; intro w1 ho1 hk1)
      | (refine wpList_copy_all rfl _ _ 37 37 rfl ev_len ev_one 40 Try.underlying37 Try.size40 _ _ _ _ rfl (by exact ho1) (by simp) b _ es rfl (by exact hs0.kp hk1 (no_not _)) rfl ?_; intro w2 ho2 hk2))
    go_ret
    exact ⟨_, w.heap.size, rfl, ho2.sl ev_len, Nat.le_refl _, hk1.trans hk2 (fun i hi e => by omega)⟩

set_option maxHeartbeats 1000000 in
theorem fromQueue_calls (v : Value) (b : Nat) (es : List Ev) (w : World) (hs : Sl Ev.cells 7 w b v es) (hn : es.length ≤ 60000) :
    Calls Try.prog 16 #[v] w fun r w' => ∃ v' b', r = .returned v' ∧ Sl Ev.cells 7 w' b' v' es ∧ w.heap.size ≤ b' ∧ Kp No w w' := by
  have hs0 := hs
  obtain ⟨a, c, rfl, hat⟩ := hs
  go_enter Try.func16, Try.ntmps16
  go_wp2_with (at_make; refine wpList_make_row rfl _ _ 37 rfl ev_len 40 zeroEv zeroEv.val 48 Try.underlying37 Try.info40 rfl es.length _ rfl rfl rfl (by omega) (by omega) ?_; intro w1 ho1 hk1)
  go_loopw [4] (fun t w' => ∃ (i : Nat) (zs : List Ev), i ≤ es.length ∧ zs.length = es.length ∧ (∀ j (h : j < es.length) (h2 : j < zs.length), j < i → zs[j] = es[j]) ∧ t = .int .i64 i ∧ Own Ev.cells 7 w' 40 w.heap.size es.length zs ∧ Kp No w w') (fun t _ => es.length - (intOf t).toNat)
  case atStart => exact ⟨0, _, by omega, by simp, fun j _ _ h => by omega, rfl, ho1, hk1⟩
  case round =>
    clear ho1 hk1
    obtain ⟨i, zs, hi, hl, heq, rfl, ho, hk⟩ := hrel
    by_cases hlt : i < es.length
    · obtain ⟨o, rfl, h3⟩ := hat i hlt
      obtain ⟨p0, p1, p2, p3, p4, p5, p6⟩ := ev_at (h3.kp hk (no_not _))
      have HEQ : Hid (∀ j (h : j < es.length) (h2 : j < zs.length), j < i → zs[j] = es[j]) := heq
      have HL : Hid (zs.length = es.length) := hl
      have HS : Hid (Sl Ev.cells 7 w b _ es) := hs0
      clear heq h3 hl hs0 hat
      go_wp2_with (first
        | (go_at_call 19; refine (fromEvent_calls es[i] _).mono ?_; rintro r w2 ⟨rfl, hk2⟩)
        | (refine wpList_store_own rfl 40 _ _ rfl ev_len 40 w.heap.size es.length zs i es[i] _ rfl (by rfl) es[i].val rfl rfl (ev_one _) Try.size40 (by exact ho.kp hk2 (no_not _)) (by rw [HL.out]; exact hlt) ?_; intro w3 ho3 hk3))
      go_roundw
      case rel =>
        refine ⟨i + 1, zs.set i es[i], by omega, by rw [List.length_set]; exact HL.out, ?_, by go_num, ho3, (hk.then hk2).trans hk3 (fun j hj e => by omega)⟩
        intro j h1 h2 hji
        rw [List.getElem_set]
        by_cases e : i = j
        · subst e; simp
        · rw [if_neg e]; exact HEQ.out j h1 (by simpa using h2) (by omega)
      case measure => simp [intOf]; omega
    · have hzs : zs = es := List.ext_getElem hl (fun j h1 h2 => heq j h2 h1 (by omega))
      subst hzs
      have HS : Hid (Sl Ev.cells 7 w b _ zs) := hs0
      clear hs0
      go_wp2
      go_ret
      exact ⟨_, rfl, w.heap.size, ho.sl ev_len, Nat.le_refl _, hk⟩
end Go.Proofs.Qxb6003632a
