import Derived.Test.Qxb6003632aHeapW
import Derived.Test.Qxb6003632aPlain
import Derived.Test.Qxb6003632aGen2
namespace Go.Proofs.Qxb6003632a
open Go.RowKit

/-- A variable of its own block. -/
def Box (w : World) (b : Nat) (t : TypeId) (v : Value) : Prop := w.heap[b]? = some (.cells #[v] t (0, 0))
theorem Box.cell {w : World} {b : Nat} {t : TypeId} {v : Value} (h : Box w b t v) : w.cell? ⟨b, 0, none⟩ = some v := by
  simp [World.cell?, show w.heap[b]? = _ from h]
theorem Box.frozen {w : World} {b : Nat} {t : TypeId} {v : Value} (h : Box w b t v) : w.frozen? ⟨b, 0, none⟩ = false := by
  simp [World.frozen?, show w.heap[b]? = _ from h]
theorem Box.kp {S : Nat → Prop} {w w' : World} {b : Nat} {t : TypeId} {v : Value} (h : Box w b t v) (k : Kp S w w') (hn : ¬ S b) : Box w' b t v := k.row h hn
theorem Box.set {w : World} {b : Nat} {t : TypeId} {v : Value} (h : Box w b t v) (u : Value) : Box (w.setCell ⟨b, 0, none⟩ u) b t u := by
  have := heap_setCell_same w b 0 #[v] t u h
  simpa [Box] using this
theorem Box.lt {w : World} {b : Nat} {t : TypeId} {v : Value} (h : Box w b t v) : b < w.heap.size := (Array.getElem?_eq_some_iff.1 h).1

theorem at_row {w : World} {b : Nat} {l : List Value} {t : TypeId} {fz : Nat × Nat} (h : w.heap[b]? = some (.cells l.toArray t fz)) : At w b 0 l := by
  intro j v hv
  rw [Nat.zero_add]
  simp [World.cell?, h, hv]

/-- What push makes of the blocks: the variable's own, and the row's. -/
def PQ (bq : Nat) (v : Value) : Nat → Prop := fun k => k = bq ∨ v.ownBlock = some k

set_option maxHeartbeats 1000000 in
theorem push_calls (bq : Nat) (v : Value) (es : List Ev) (e : Ev) (w : World) (hq : Box w bq 45 v) (hown : w.ownsRow 0 48 7 v es.length (es.flatMap Ev.cells)) (hne : v.ownBlock ≠ some bq) (hn : es.length ≤ 50000) :
    Calls Try.prog 28 #[.pointer (some ⟨bq, 0, none⟩), e.val] w fun r w' => r = .returned (.tuple #[]) ∧ ∃ g cap es', Box w' bq 45 (.slice (some ⟨g, 0, none⟩) es'.length cap) ∧ Own Ev.cells 7 w' 48 g cap es' ∧ g ≠ bq ∧
      es'.Perm (es ++ [e]) ∧ (Heap es → Heap es') ∧ Kp (PQ bq v) w w' ∧ (v.ownBlock = some g ∨ w.heap.size ≤ g) := by
  obtain ⟨inf, hi, hz0, hz1, hz2⟩ := info_parts Try.info48
  have hqc := hq.cell
  have hqf := hq.frozen
  have hlt := hq.lt
  simp only [Ev.val]
  go_enter Try.func28, Try.ntmps28
  go_wp2
  go_cut [7] (fun t w' => ∃ g cap, t = .pointer (some ⟨bq, 0, none⟩) ∧ Box w' bq 45 (.slice (some ⟨g, 0, none⟩) (es.length + 1) cap) ∧ Own Ev.cells 7 w' 48 g cap (es ++ [e]) ∧ g ≠ bq ∧ Kp (PQ bq v) w w' ∧ (v.ownBlock = some g ∨ w.heap.size ≤ g))
  case first =>
    refine wp_region_two [2, 3, 5, 38] 3 5 [0, 1, 2, 4, 5, 3, 6, 7, 8] Try.mixed (by kernel_rfl) ?_ ?_
    · go_wp2_with (at_builtin; refine wpList_append_row rfl _ _ 45 rfl ev_len (by omega) ev_one 48 zeroEv.val 48 Try.underlying45 Try.info48 rfl v es rfl (by exact (((Kp.refl No w).alloc _).drew.alloc _).owns hown (fun _ _ => no_not _)) _ 0 _ _ [e] rfl rfl ?hat (by simp) (by simp; omega) (by omega) ?_)
      case hat => exact at_row (heap_alloc2_new _ _ _)
      intro g cap w2 ho2 hk2 hg2
      have hkB : Kp (fun j => v.ownBlock = some j) w w2 := (((Kp.refl _ w).alloc _).drew.alloc _).trans hk2 (fun _ _ h => h)
      have hb2 := hq.kp hkB hne
      have hc2 := hb2.cell
      have hf2 := hb2.frozen
      have hgne : g ≠ bq := by
        rcases hg2 with h | h
        · rintro rfl; exact hne h
        · omega
      have hg3 : v.ownBlock = some g ∨ w.heap.size ≤ g := hg2.imp id (fun h => by omega)
      clear hq hqc hqf hown hk2 hg2
      go_wp2_with fail
      refine ⟨by kernel_rfl, ?_⟩
      go_wp2_with fail
      go_meet
      case rel =>
        exact ⟨g, cap, rfl, hb2.set _, ho2.kp ((Kp.refl (fun k => k = bq) w2).setCell (fun _ => rfl) _) hgne, hgne, (hkB.mono (fun _ _ h => .inr h)).setCell (fun _ => .inl rfl) _, hg3⟩
    · simp only [pick, List.map_cons, List.map_nil, nth]
      go_wp2_with (at_builtin; refine wpList_append_row rfl _ _ 45 rfl ev_len (by omega) ev_one 48 zeroEv.val 48 Try.underlying45 Try.info48 rfl v es rfl (by exact (((Kp.refl No w).alloc _).drew.alloc _).owns hown (fun _ _ => no_not _)) _ 0 _ _ [e] rfl rfl ?hat (by simp) (by simp; omega) (by omega) ?_)
      case hat => exact at_row (heap_alloc2_new _ _ _)
      intro g cap w2 ho2 hk2 hg2
      have hkB : Kp (fun j => v.ownBlock = some j) w w2 := (((Kp.refl _ w).alloc _).drew.alloc _).trans hk2 (fun _ _ h => h)
      have hb2 := hq.kp hkB hne
      have hc2 := hb2.cell
      have hf2 := hb2.frozen
      have hgne : g ≠ bq := by
        rcases hg2 with h | h
        · rintro rfl; exact hne h
        · omega
      have hg3 : v.ownBlock = some g ∨ w.heap.size ≤ g := hg2.imp id (fun h => by omega)
      clear hq hqc hqf hown hk2 hg2
      go_wp2_with fail
      refine ⟨by kernel_rfl, ?_⟩
      go_wp2_with fail
      go_meet
      case rel =>
        exact ⟨g, cap, rfl, hb2.set _, ho2.kp ((Kp.refl (fun k => k = bq) w2).setCell (fun _ => rfl) _) hgne, hgne, (hkB.mono (fun _ _ h => .inr h)).setCell (fun _ => .inl rfl) _, hg3⟩
  case rest =>
    obtain ⟨g, cap, rfl, hb, ho, hgne, hk, hg⟩ := hcut
    clear hq hqc hqf hown hi hz0 hz1 hz2
    have hbc := hb.cell
    have hbl := hb.lt
    go_wp2
    have HG : Hid (v.ownBlock = some g ∨ w.heap.size ≤ g) := hg
    have hbg : v.ownBlock = some g ∨ w.heap.size ≤ g := hg
    clear hg hbc
    go_loopw [5] (fun t w' => ∃ (i : Nat) (hs : List Ev), i < hs.length ∧ hs.length = es.length + 1 ∧ t = .int .i64 i ∧ Own Ev.cells 7 w' 48 g cap hs ∧ Box w' bq 45 (.slice (some ⟨g, 0, none⟩) (es.length + 1) cap) ∧ hs.Perm (es ++ [e]) ∧ (Heap es → Up hs i) ∧ Kp (PQ bq v) w w') (fun t _ => (intOf t).toNat)
    case atStart => exact ⟨es.length, es ++ [e], by simp, by simp, rfl, ho, hb, .refl _, fun h => up_start h e, hk⟩
    case round =>
      clear hb ho hk
      obtain ⟨i, hs, hi, hl, rfl, ho, hb, hp, hu, hk⟩ := hrel
      by_cases hi0 : 0 < i
      · have hpl : (i - 1) / 2 < hs.length := by omega
        have hne2 : (i - 1) / 2 ≠ i := by omega
        have h3 := ho.at ev_len hi
        have h4 := ho.at ev_len hpl
        have ei : (((i : Int) - 1) / 2).toNat = (i - 1) / 2 := by omega
        have ep : (((i : Int) - 1) / 2) = (((i - 1) / 2 : Nat) : Int) := by omega
        go_wp2
        refine wp_region_text [2, 3, 5, 38] Try.mixed (by kernel_rfl) ?_
        go_wp2_with fail
        refine (before_calls hs[i] hs[(i - 1) / 2] _ g (i * 7) g ((i - 1) / 2 * 7) (by exact h3.drew) (by exact h4.drew)).mono ?_
        rintro r w1 ⟨rfl, hk1⟩
        have ho := (show Own Ev.cells 7 wr.drew 48 g cap hs from ho).kp hk1 (no_not _)
        have hb := (show Box wr.drew bq 45 _ from hb).kp hk1 (no_not _)
        have hk := hk.drew.then hk1
        have h3 := ho.at ev_len hi
        have h4 := ho.at ev_len hpl
        go_wp2_with fail
        refine ⟨by kernel_rfl, ?_⟩
        cases hb1 : keyLess hs[i] hs[(i - 1) / 2]
        · go_wp2
          go_end0
          exact ⟨rfl, g, cap, hs, by rw [hl]; exact hb, ho, hgne, hp, fun h => up_end (hu h) hi (.inr hb1), hk, HG.out⟩
        · have e3 := ev_at h3
          have e4 := ev_at h4
          obtain ⟨p0, p1, p2, p3, p4, p5, p6⟩ := e3
          obtain ⟨q0, q1, q2, q3, q4, q5, q6⟩ := e4
          clear h3 h4
          go_wp2
          refine wp_region_text [2, 3, 5, 38] Try.mixed (by kernel_rfl) ?_
          go_wp2_with (first
            | (refine wpList_store_own rfl 48 _ _ rfl ev_len 48 g cap hs i hs[(i - 1) / 2] _ rfl (by rfl) hs[(i - 1) / 2].val rfl rfl (ev_one _) Try.size48 (by exact ho) hi ?_; intro w2 ho2 hk2)
            | (refine wpList_store_own rfl 48 _ _ rfl ev_len 48 g cap (hs.set i hs[(i - 1) / 2]) ((i - 1) / 2) hs[i] _ rfl (by rfl) hs[i].val rfl rfl (ev_one _) Try.size48 (by exact ho2) (by simp; omega) ?_; intro w3 ho3 hk3))
          refine ⟨by kernel_rfl, ?_⟩
          have hgS : g < w.heap.size → PQ bq v g := fun hlt => by
            rcases HG.out with h | h
            · exact .inr h
            · omega
          have hk3' : Kp (PQ bq v) w w3 := (hk.drew.trans hk2 (fun j hj e => by subst e; exact hgS hj)).trans hk3 (fun j hj e => by subst e; exact hgS hj)
          have hb3 := ((show Box w1.drew bq 45 _ from hb).kp hk2 (fun e => hgne e.symm)).kp hk3 (fun e => hgne e.symm)
          clear hk2 hk3 ho2 hk ho hb p0 p1 p2 p3 p4 p5 p6 q0 q1 q2 q3 q4 q5 q6
          go_wp2
          go_roundw
          case rel => exact ⟨(i - 1) / 2, swapL hs i ((i - 1) / 2) hi hpl, by rw [swapL_len]; exact hpl, by rw [swapL_len]; exact hl, congrArg (Value.int .i64) (by omega), ho3, hb3, (swapL_perm hs i _ hi hpl).trans hp, fun h => up_step (hu h) hi hi0 hb1, hk3'⟩
          case measure => simp [intOf]; omega
      · go_wp2
        go_end0
        exact ⟨rfl, g, cap, hs, by rw [hl]; exact hb, ho, hgne, hp, fun h => up_end (hu h) hi (.inl (by omega)), hk, HG.out⟩

set_option maxHeartbeats 1000000 in
theorem zzPush_calls (bq : Nat) (v : Value) (es : List Ev) (e : Ev) (w : World) (hq : Box w bq 45 v) (hown : w.ownsRow 0 48 7 v es.length (es.flatMap Ev.cells)) (hne : v.ownBlock ≠ some bq) (hn : es.length ≤ 50000) :
    Calls Try.prog 15 #[.pointer (some ⟨bq, 0, none⟩), e.val] w fun r w' => r = .returned (.tuple #[]) ∧ ∃ g cap es', Box w' bq 45 (.slice (some ⟨g, 0, none⟩) es'.length cap) ∧ Own Ev.cells 7 w' 48 g cap es' ∧ g ≠ bq ∧
      es'.Perm (es ++ [e]) ∧ (Heap es → Heap es') ∧ Kp (PQ bq v) w w' ∧ (v.ownBlock = some g ∨ w.heap.size ≤ g) := by
  have hlt := hq.lt
  simp only [Ev.val]
  go_enter Try.func15, Try.ntmps15
  go_wp2_with fail
  have hkA := (Kp.refl No w).alloc (.cells #[.int .i64 e.tick, .int .u64 e.seq, .int .i64 e.bid, .int .i32 e.task, .int .i32 e.ctr, .int .u8 e.kind, .int .i64 e.perf] 48)
  refine (push_calls bq v es e _ (hq.kp hkA (no_not _)) (hkA.owns hown (fun _ _ => no_not _)) hne hn).mono ?_
  rintro r w1 ⟨rfl, g, cap, es', h1, h2, h3, h4, h5, h6, h7⟩
  go_wp2_with fail
  go_end0
  exact ⟨rfl, g, cap, es', h1, h2, h3, h4, h5, (hkA.no _).trans h6 (fun _ _ h => h), h7.imp id (fun h => Nat.le_trans hkA.size h)⟩
end Go.Proofs.Qxb6003632a
