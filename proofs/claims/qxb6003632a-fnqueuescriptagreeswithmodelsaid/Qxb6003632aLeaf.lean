/-
  The contracts of the small functions: keyLess, fullLess, equalEv, before; toEvent, fromEvent and what they call.
-/
import Derived.Test.Qxb6003632aBase
namespace Go.Proofs.Qxb6003632a
open Go.RowKit

set_option maxHeartbeats 400000 in
theorem keyLess_calls (a b : Ev) (w : World) : Calls Try.prog 21 #[a.val, b.val] w fun e w' => e = .returned (.bool (keyLess a b)) ∧ Kp No w w' := by
  simp only [Ev.val]
  go_enter Try.func21, Try.ntmps21
  go_wp2
  all_goals go_ret
  all_goals refine ⟨?_, ((Kp.refl No w).alloc _).alloc _⟩
  all_goals simp_all [keyLess]

set_option maxHeartbeats 400000 in
theorem before_calls (e1 e2 : Ev) (w : World) (b1 o1 b2 o2 : Nat) (h1 : At w b1 o1 e1.cells) (h2 : At w b2 o2 e2.cells) : Calls Try.prog 33 #[.pointer (some ⟨b1, o1, none⟩), .pointer (some ⟨b2, o2, none⟩)] w fun e w' => e = .returned (.bool (keyLess e1 e2)) ∧ Kp No w w' := by
  obtain ⟨p0, p1, p2, p3, p4, p5, p6⟩ := ev_at h1
  obtain ⟨q0, q1, q2, q3, q4, q5, q6⟩ := ev_at h2
  clear h1 h2
  go_enter Try.func33, Try.ntmps33
  go_wp2
  refine wp_region_text [2, 5, 38] Try.mixed (by kernel_rfl) ?_
  go_wp2
  refine ⟨by kernel_rfl, ?_⟩
  go_wp2
  · refine wp_region_text [2, 5, 38] Try.mixed (by kernel_rfl) ?_
    go_wp2
    refine ⟨by kernel_rfl, ?_⟩
    go_wp2
    go_ret
    refine ⟨?_, (Kp.refl No w).drew.drew⟩
    simp_all [keyLess]
  · refine wp_region_text [2, 5, 38] Try.mixed (by kernel_rfl) ?_
    go_wp2
    refine ⟨by kernel_rfl, ?_⟩
    go_wp2
    · refine wp_region_text [2, 5, 38] Try.mixed (by kernel_rfl) ?_
      go_wp2
      refine ⟨by kernel_rfl, ?_⟩
      go_wp2
      go_ret
      refine ⟨?_, (Kp.refl No w).drew.drew.drew⟩
      simp_all [keyLess]
    · refine wp_region_text [2, 5, 38] Try.mixed (by kernel_rfl) ?_
      go_wp2
      refine ⟨by kernel_rfl, ?_⟩
      go_wp2
      go_ret
      refine ⟨?_, (Kp.refl No w).drew.drew.drew⟩
      simp_all [keyLess]

theorem fullLess_key (a b : Ev) (w : World) (hf : fullLess a b = keyLess a b) (hc : (a.tick != b.tick) = true ∨ ((a.tick != b.tick) = false ∧ (a.kind != b.kind) = true) ∨ ((a.tick != b.tick) = false ∧ (a.kind != b.kind) = false ∧ (a.seq != b.seq) = true)) :
    Calls Try.prog 34 #[a.val, b.val] w fun e w' => e = .returned (.bool (fullLess a b)) ∧ Kp No w w' := by
  rw [hf]
  clear hf
  rcases hc with h1 | ⟨h1, h2⟩ | ⟨h1, h2, h3⟩
  all_goals
    simp only [Ev.val]
    go_enter Try.func34, Try.ntmps34
    go_wp2_with fail
    refine (keyLess_calls a b _).mono ?_
    rintro e w1 ⟨rfl, hk⟩
    go_wp2_with fail
    go_ret
    exact ⟨rfl, Kp.then (((Kp.refl No w).alloc _).alloc _) hk⟩

set_option maxHeartbeats 1000000 in
theorem fullLess_rest (a b : Ev) (w : World) (h1 : (a.tick != b.tick) = false) (h2 : (a.kind != b.kind) = false) (h3 : (a.seq != b.seq) = false) :
    Calls Try.prog 34 #[a.val, b.val] w fun e w' => e = .returned (.bool (fullLess a b)) ∧ Kp No w w' := by
  have hf : fullLess a b = if a.bid != b.bid then decide (a.bid < b.bid) else if a.task != b.task then decide (a.task < b.task) else if a.ctr != b.ctr then decide (a.ctr < b.ctr) else decide (a.perf < b.perf) := by
    unfold fullLess; rw [h1, h2, h3]; rfl
  rw [hf]
  clear hf
  cases h4 : (a.bid != b.bid)
  · cases h5 : (a.task != b.task)
    · cases h6 : (a.ctr != b.ctr)
      all_goals
        simp only [Ev.val]
        go_enter Try.func34, Try.ntmps34
        go_wp2_with fail
        go_ret
        exact ⟨rfl, ((Kp.refl No w).alloc _).alloc _⟩
    · simp only [Ev.val]
      go_enter Try.func34, Try.ntmps34
      go_wp2_with fail
      go_ret
      exact ⟨rfl, ((Kp.refl No w).alloc _).alloc _⟩
  · simp only [Ev.val]
    go_enter Try.func34, Try.ntmps34
    go_wp2_with fail
    go_ret
    exact ⟨rfl, ((Kp.refl No w).alloc _).alloc _⟩

theorem fullLess_calls (a b : Ev) (w : World) : Calls Try.prog 34 #[a.val, b.val] w fun e w' => e = .returned (.bool (fullLess a b)) ∧ Kp No w w' := by
  cases h1 : (a.tick != b.tick)
  · cases h2 : (a.kind != b.kind)
    · cases h3 : (a.seq != b.seq)
      · exact fullLess_rest a b w h1 h2 h3
      · exact fullLess_key a b w (by unfold fullLess; rw [h1, h2, h3]; rfl) (.inr (.inr ⟨h1, h2, h3⟩))
    · exact fullLess_key a b w (by unfold fullLess; rw [h1, h2]; rfl) (.inr (.inl ⟨h1, h2⟩))
  · exact fullLess_key a b w (by unfold fullLess; rw [h1]; rfl) (.inl h1)

set_option maxHeartbeats 1000000 in
theorem equalEv_calls (a b : Ev) (w : World) : Calls Try.prog 30 #[a.val, b.val] w fun e w' => e = .returned (.bool (eqEv a b)) ∧ Kp No w w' := by
  simp only [Ev.val]
  go_enter Try.func30, Try.ntmps30
  go_wp2
  all_goals go_ret
  all_goals refine ⟨?_, ((Kp.refl No w).alloc _).alloc _⟩
  all_goals simp_all [eqEv]

set_option maxHeartbeats 400000 in
theorem mk_calls (a : Ev) (w : World) : Calls Try.prog 27 #[.int .i64 a.tick, .int .u64 a.seq, .int .i64 a.bid, .int .i32 a.task, .int .i32 a.ctr, .int .u8 a.kind, .int .i64 a.perf] w fun e w' => e = .returned a.val ∧ Kp No w w' := by
  go_enter Try.func27, Try.ntmps27
  go_wp2
  refine bodyPost_ret (v := a.val) (by simp [results, Try.results27, go_sem, Ev.val]) rfl ⟨rfl, ?_⟩
  repeat (first | exact Kp.refl _ _ | refine Kp.setNew ?_ (by simp) _ | refine Kp.alloc ?_ _)
end Go.Proofs.Qxb6003632a
