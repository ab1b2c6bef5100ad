import Derived.Test.Qxb6003632aLeaf
namespace Go.Proofs.Qxb6003632a
open Go.RowKit

theorem own_one {α : Type} {f : α → List Value} {k : Nat} {w : World} {t : TypeId} {g : Nat} {x : α} (hf : ∀ a, (f a).length = k) : Own f k w t g 1 [x] ↔ w.heap[g]? = some (.cells (f x).toArray t (0, 0)) := by
  rw [own_iff hf]
  constructor
  · rintro ⟨cur, hg, _, _, h3, h4⟩
    simp at h3 h4
    rw [List.take_of_length_le (by simp [h3])] at h4
    rw [hg, ← h4]
  · intro h
    exact ⟨_, h, by simp, by simp [maxLen], by simp [hf], by simp; rw [List.take_of_length_le (by rw [hf]; omega)]⟩

/-- The result of a function that lies in a box. -/
theorem results_ev40 {fn : Func} {p : Tmp} (h : fn.results = #[.cell p 40]) (tmps : Array Value) (w : World) (g : Nat) (t : TypeId) (e : Ev)
    (hp : tmps.getD p undef = .pointer (some ⟨g, 0, none⟩)) (hg : w.heap[g]? = some (.cells e.cells.toArray t (0, 0))) : (results fn tmps).run Try.prog w = .ok e.val w :=
  results_cell_row h tmps w g t e.cells.toArray (0, 0) _ hp hg Try.underlying40 rfl Try.size40
theorem results_ev48 {fn : Func} {p : Tmp} (h : fn.results = #[.cell p 48]) (tmps : Array Value) (w : World) (g : Nat) (t : TypeId) (e : Ev)
    (hp : tmps.getD p undef = .pointer (some ⟨g, 0, none⟩)) (hg : w.heap[g]? = some (.cells e.cells.toArray t (0, 0))) : (results fn tmps).run Try.prog w = .ok e.val w :=
  results_cell_row h tmps w g t e.cells.toArray (0, 0) _ hp hg Try.underlying48 rfl Try.size48

set_option maxHeartbeats 400000 in
theorem toEvent_calls (a : Ev) (w : World) : Calls Try.prog 14 #[a.val] w fun e w' => e = .returned a.val ∧ Kp No w w' := by
  simp only [Ev.val]
  go_enter Try.func14, Try.ntmps14
  go_wp2_with fail
  refine (mk_calls a _).mono ?_
  rintro e w1 ⟨rfl, hk⟩
  have ho : Own Ev.cells 7 w1 48 (w.heap.size + 1) 1 [zeroEv] := (own_one ev_len).2 (hk.row (heap_alloc2_new _ _ _) (no_not _))
  go_wp2_with (refine wpList_store_own rfl 48 _ _ rfl ev_len 48 _ 1 [zeroEv] 0 a _ rfl (by simp) a.val rfl rfl (ev_one a) Try.size48 ho (by simp) ?_; intro w2 ho2 hk2)
  have hh := (own_one ev_len).1 ho2
  refine bodyPost_ret (results_ev48 rfl _ _ _ _ a rfl hh) rfl ⟨rfl, ?_⟩
  exact ((((Kp.refl No w).alloc _).alloc _).then hk).trans hk2 (fun i hi e => by omega)

set_option maxHeartbeats 400000 in
theorem fields_calls (a : Ev) (w : World) : Calls Try.prog 31 #[a.val] w fun e w' => e = .returned (.tuple #[.int .i64 a.tick, .int .u64 a.seq, .int .i64 a.bid, .int .i32 a.task, .int .i32 a.ctr, .int .u8 a.kind, .int .i64 a.perf]) ∧ Kp No w w' := by
  simp only [Ev.val]
  go_enter Try.func31, Try.ntmps31
  go_wp2
  refine wp_region_text [2, 5, 38] Try.mixed (by kernel_rfl) ?_
  go_wp2
  refine ⟨by kernel_rfl, ?_⟩
  go_wp2
  refine bodyPost_ret (v := .tuple #[.int .i64 a.tick, .int .u64 a.seq, .int .i64 a.bid, .int .i32 a.task, .int .i32 a.ctr, .int .u8 a.kind, .int .i64 a.perf]) (by simp [results, Try.results31]) rfl ⟨rfl, ?_⟩
  exact ((Kp.refl No w).alloc _).drew

set_option maxHeartbeats 400000 in
theorem fromEvent_calls (a : Ev) (w : World) : Calls Try.prog 19 #[a.val] w fun e w' => e = .returned a.val ∧ Kp No w w' := by
  simp only [Ev.val]
  go_enter Try.func19, Try.ntmps19
  go_wp2_with fail
  refine (fields_calls a _).mono ?_
  rintro e w1 ⟨rfl, hk⟩
  have ho : Own Ev.cells 7 w1 40 (w.heap.size + 1) 1 [zeroEv] := (own_one ev_len).2 (hk.row (heap_alloc2_new _ _ _) (no_not _))
  go_wp2_with (refine wpList_store_own rfl 40 _ _ rfl ev_len 40 _ 1 [zeroEv] 0 a _ rfl (by simp) a.val rfl rfl (ev_one a) Try.size40 ho (by simp) ?_; intro w2 ho2 hk2)
  have hh := (own_one ev_len).1 ho2
  refine bodyPost_ret (results_ev40 rfl _ _ _ _ a rfl hh) rfl ⟨rfl, ?_⟩
  exact ((((Kp.refl No w).alloc _).alloc _).then hk).trans hk2 (fun i hi e => by omega)
end Go.Proofs.Qxb6003632a
