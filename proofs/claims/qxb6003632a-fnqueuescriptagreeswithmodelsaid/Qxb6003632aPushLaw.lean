import Derived.Test.Qxb6003632aSameW
import Derived.Test.Qxb6003632aGen3
namespace Go.Proofs.Qxb6003632a
open Go.RowKit

theorem Sl.kp0 {α : Type} {f : α → List Value} {k : Nat} {S : Nat → Prop} {w w' : World} {b : Nat} {v : Value} {es : List α} (h : Sl f k w b v es) (q : Kp S w w') (hn : 0 < es.length → ¬ S b) : Sl f k w' b v es := by
  obtain ⟨a, c, rfl, h⟩ := h
  exact ⟨a, c, rfl, fun i hi => let ⟨o, ha, he⟩ := h i hi; ⟨o, ha, he.kp q (hn (by omega))⟩⟩
theorem Sl.lt {w : World} {b : Nat} {v : Value} {es : List Ev} (h : Sl Ev.cells 7 w b v es) (h0 : 0 < es.length) : b < w.heap.size := by
  obtain ⟨a, c, rfl, h⟩ := h
  obtain ⟨o, _, he⟩ := h 0 h0
  exact World.block_lt_of_cell? w _ (ev_at he).1

theorem sl_one {w : World} {b c : Nat} {t : TypeId} {fz : Nat × Nat} {e : Ev} (h : w.heap[b]? = some (.cells e.cells.toArray t fz)) : Sl Ev.cells 7 w b (.slice (some ⟨b, 0, none⟩) 1 c) [e] := by
  refine ⟨some ⟨b, 0, none⟩, c, rfl, fun i hi => ⟨0, rfl, ?_⟩⟩
  obtain rfl : i = 0 := by simp at hi; omega
  exact at_row h
theorem Box.drew {w : World} {b : Nat} {t : TypeId} {v : Value} (h : Box w b t v) : Box w.drew b t v := h

set_option maxHeartbeats 400000 in
theorem bytesPush_calls (a : Option Addr) (n c : Nat) (e : Ev) (w : World) (hn : n ≤ maxLen) :
    Calls Try.prog 11 #[.slice a n c, e.val] w fun r w' => r = .returned (.bool (decide (n ≤ 1048576))) ∧ Kp No w w' := by
  unfold maxLen at hn
  simp only [Ev.val]
  by_cases h : n ≤ 1048576
  · go_enter Try.func11, Try.ntmps11
    go_wp2
    go_ret
    exact ⟨by simp [h], (Kp.refl No w).alloc _⟩
  · have h' : 1048576 < n := by omega
    go_enter Try.func11, Try.ntmps11
    go_wp2
    go_ret
    exact ⟨by simp [h], (Kp.refl No w).alloc _⟩

set_option maxHeartbeats 4000000 in
set_option maxRecDepth 100000 in
theorem pushLaw_calls (v : Value) (b : Nat) (es : List Ev) (e : Ev) (w : World) (hs : Sl Ev.cells 7 w b v es) (hn : es.length ≤ maxLen) :
    Calls Try.prog 4 #[v, e.val] w fun r w' => r = .returned (.bool true) ∧ Kp No w w' := by
  have hs0 := hs
  obtain ⟨a, c, rfl, hat⟩ := hs
  clear hat
  have hbytes := fun W => bytesPush_calls a es.length c e W hn
  simp only [Ev.val] at hbytes ⊢
  unfold maxLen at hn
  by_cases h1 : es.length ≤ 1048576
  · by_cases h2 : es.length ≤ 4096
    · have hd2 : decide ((4096 : Int) < (es.length : Int)) = false := decide_eq_false (by omega)
      have hd3 : decide ((1048576 : Int) < 48 * (es.length : Int)) = false := decide_eq_false (by omega)
      go_enter Try.func4, Try.ntmps4
      go_wp2_with fail
      refine (hbytes _).mono ?_
      rintro r w1 ⟨rfl, hk1⟩
      have hd1 : decide (es.length ≤ 1048576) = true := decide_eq_true h1
      go_wp2_with fail
      have hk01 : Kp No w w1 := ((Kp.refl No w).alloc _).then hk1
      have hrE : w1.heap[w.heap.size]? = some (.cells e.cells.toArray 40 (0, 0)) := hk1.row (heap_alloc_new _ _) (no_not _)
      refine (heapOrdered_calls _ b es _ (hs0.kp hk01 (no_not _)) (by omega)).mono ?_
      rintro r w2 ⟨rb, rfl, hrb, hk2⟩
      cases rb
      · go_wp2_with fail
        go_ret
        exact ⟨rfl, hk01.then hk2⟩
      have hheap : Heap es := hrb.1 rfl
      clear hrb
      go_wp2_with fail
      have hk02 := hk01.then hk2
      have hrE := hk2.row hrE (no_not _)
      refine (cloneEvs_calls _ b es _ (hs0.kp hk02 (no_not _)) (by omega)).mono ?_
      rintro r w3 ⟨v3, b3, rfl, hs3, hb3, hk3⟩
      have hk03 := hk02.then hk3
      have hrE := hk3.row hrE (no_not _)
      have hwg : w.heap.size < w3.heap.size := (Array.getElem?_eq_some_iff.1 hrE).1
      have hlt3 : 0 < es.length → b3 < w3.heap.size := fun h => hs3.lt h
      have hs30 := hs3
      obtain ⟨a3, c3, rfl, hat3⟩ := hs3
      clear hk1 hk2 hk3 hk01 hk02 hs0 hbytes
      go_wp2_with (at_make; refine wpList_make_row rfl _ _ 45 rfl ev_len 48 zeroEv zeroEv.val 48 Try.underlying45 Try.info48 rfl es.length _ rfl rfl rfl (by omega) (by omega) ?_; intro w4 ho4 hk4)
      have hgq : w3.heap.size < w4.heap.size := ho4.lt
      have hb5 : Box (w4.alloc (.cells #[.slice (some ⟨w3.heap.size, 0, none⟩) es.length es.length] 45)) w4.heap.size 45 (.slice (some ⟨w3.heap.size, 0, none⟩) es.length es.length) := heap_alloc_new _ _
      have hk5 := hk4.alloc (.cells #[.slice (some ⟨w3.heap.size, 0, none⟩) es.length es.length] 45)
      have ho5 := ho4.kp ((Kp.refl No w4).alloc (.cells #[.slice (some ⟨w3.heap.size, 0, none⟩) es.length es.length] 45)) (no_not _)
      have hk05 := hk03.then hk5
      have hrE := hk5.row hrE (no_not _)
      have hs5 := hs30.kp hk5 (no_not _)
      generalize (w4.alloc (.cells #[.slice (some ⟨w3.heap.size, 0, none⟩) es.length es.length] 45)) = w5 at *
      generalize w4.heap.size = bq at *
      generalize w3.heap.size = gh at *
      clear ho4 hk4 hk5 hs30 hk03
      go_loopw [6] (fun t w' => ∃ (i : Nat) (zs : List Ev), i ≤ es.length ∧ zs.length = es.length ∧ (∀ j (h : j < es.length) (h2 : j < zs.length), j < i → zs[j] = es[j]) ∧ t = .int .i64 i ∧ Own Ev.cells 7 w' 48 gh es.length zs ∧ Box w' bq 45 (.slice (some ⟨gh, 0, none⟩) es.length es.length) ∧ Kp (fun k => k = gh) w5 w') (fun t _ => es.length - (intOf t).toNat)
      case atStart => exact ⟨0, _, by omega, by simp, fun j _ _ h => by omega, rfl, ho5, hb5, Kp.refl _ _⟩
      case round =>
        clear ho5 hb5
        obtain ⟨i, zs, hi, hl, heq, rfl, ho, hb, hk⟩ := hrel
        have HEQ : Hid (∀ j (h : j < es.length) (h2 : j < zs.length), j < i → zs[j] = es[j]) := heq
        have HL : Hid (zs.length = es.length) := hl
        clear heq hl
        by_cases hlt : i < es.length
        · obtain ⟨o3, ha3, h3⟩ := (show ∃ o3, a3 = some ⟨b3, o3, none⟩ ∧ At w5 b3 (o3 + i * 7) es[i].cells by
            obtain ⟨a', c', he, hh⟩ := hs5
            simp only [Value.slice.injEq] at he
            obtain ⟨rfl, _, _⟩ := he
            exact hh i hlt)
          subst ha3
          obtain ⟨p0, p1, p2, p3, p4, p5, p6⟩ := ev_at (h3.kp hk (fun e => by have := hlt3 (by omega); omega))
          have hbc := hb.cell
          have HS5 : Hid (Sl Ev.cells 7 w5 b3 _ es) := hs5
          clear h3 hs5
          go_wp2_with fail
          refine wp_region_two [2, 3, 5, 38] 0 6 [1, 2, 3, 4, 5, 6, 0, 7, 8] Try.mixed (by kernel_rfl) ?_ ?_
          · go_wp2_with (first
              | (go_at_call 14; refine (toEvent_calls es[i] _).mono ?_; rintro r w6 ⟨rfl, hk6⟩; have hbc := (hb.drew.kp hk6 (no_not _)).cell)
              | (refine wpList_store_own rfl 48 _ _ rfl ev_len 48 gh es.length zs i es[i] _ rfl (by rfl) es[i].val rfl rfl (ev_one _) Try.size48 (by exact (show Own Ev.cells 7 (World.drew _) 48 gh es.length zs from ho).kp hk6 (no_not _)) (by rw [HL.out]; exact hlt) ?_; intro w7 ho7 hk7))
            refine ⟨by kernel_rfl, ?_⟩
            have hb7 := (hb.drew.kp hk6 (no_not _)).kp hk7 (fun e => by omega)
            have hk7 := (hk.drew.then hk6).trans hk7 (fun _ _ h => h)
            go_wp2_with fail
            go_roundw
            case rel =>
              refine ⟨i + 1, zs.set i es[i], by omega, by rw [List.length_set]; exact HL.out, ?_, by go_num, ho7, hb7, hk7⟩
              intro j h1 h2 hji
              rw [List.getElem_set]
              by_cases e : i = j
              · subst e; simp
              · rw [if_neg e]; exact HEQ.out j h1 (by simpa using h2) (by omega)
            case measure => simp [intOf]; omega
          · simp only [pick, List.map_cons, List.map_nil, nth]
            go_wp2_with (first
              | (go_at_call 14; refine (toEvent_calls es[i] _).mono ?_; rintro r w6 ⟨rfl, hk6⟩; have hbc := (hb.drew.kp hk6 (no_not _)).cell)
              | (refine wpList_store_own rfl 48 _ _ rfl ev_len 48 gh es.length zs i es[i] _ rfl (by rfl) es[i].val rfl rfl (ev_one _) Try.size48 (by exact (show Own Ev.cells 7 (World.drew _) 48 gh es.length zs from ho).kp hk6 (no_not _)) (by rw [HL.out]; exact hlt) ?_; intro w7 ho7 hk7))
            refine ⟨by kernel_rfl, ?_⟩
            have hb7 := (hb.drew.kp hk6 (no_not _)).kp hk7 (fun e => by omega)
            have hk7 := (hk.drew.then hk6).trans hk7 (fun _ _ h => h)
            go_wp2_with fail
            go_roundw
            case rel =>
              refine ⟨i + 1, zs.set i es[i], by omega, by rw [List.length_set]; exact HL.out, ?_, by go_num, ho7, hb7, hk7⟩
              intro j h1 h2 hji
              rw [List.getElem_set]
              by_cases e : i = j
              · subst e; simp
              · rw [if_neg e]; exact HEQ.out j h1 (by simpa using h2) (by omega)
            case measure => simp [intOf]; omega
        · have hzs : zs = es := List.ext_getElem HL.out (fun j h1 h2 => HEQ.out j h2 h1 (by omega))
          rw [hzs] at ho
          clear hzs HEQ HL
          have hrE := hk.row hrE (fun e => by omega)
          have hs6 := hs5.kp0 hk (fun h e => by have := hlt3 h; omega)
          have hk06 : Kp No w wr := hk05.trans hk (fun q hq e => by omega)
          have hbl := hb.lt
          obtain ⟨p0, p1, p2, p3, p4, p5, p6⟩ := ev_at (at_row hrE)
          simp only [Nat.zero_add] at p0 p1 p2 p3 p4 p5 p6
          clear hs5 hk05 hk
          go_wp2_with fail
          refine (toEvent_calls e _).mono ?_
          rintro r w6 ⟨rfl, hk6⟩
          clear p0 p1 p2 p3 p4 p5 p6
          have hrE := hk6.row hrE (no_not _)
          have hs7 := hs6.kp hk6 (no_not _)
          have hb7 := hb.kp hk6 (no_not _)
          have ho7 := ho.kp hk6 (no_not _)
          have hk07 := hk06.then hk6
          clear hs6 hb ho hk06 hk6
          go_wp2_with fail
          refine (zzPush_calls bq _ es e _ hb7 ho7 (by simp [Value.ownBlock]; omega) (by omega)).mono ?_
          rintro r w8 ⟨rfl, g, cap, es', hb8, ho8, hgb, hperm, hheap', hk8, hg8⟩
          have hlen : es'.length = es.length + 1 := by rw [hperm.length_eq]; simp
          have hheap8 := hheap' hheap
          have hS : ∀ q, PQ bq (.slice (some ⟨gh, 0, none⟩) es.length es.length) q → q = bq ∨ q = gh := fun q h => h.imp id (fun h => by simpa [Value.ownBlock] using h.symm)
          have hrE := hk8.row hrE (fun h => by rcases hS _ h with h | h <;> omega)
          have hs8 := hs7.kp0 hk8 (fun h0 h => by have := hlt3 h0; rcases hS _ h with h | h <;> omega)
          have hk08 : Kp No w w8 := hk07.trans hk8 (fun q hq h => by rcases hS _ h with h | h <;> omega)
          have hbc := hb8.cell
          have hne : ((es'.length : Int) != (es.length : Int) + 1) = false := by simp; omega
          have HLN : Hid (es'.length = es.length + 1) := hlen
          clear hs7 hb7 ho7 hk07 hk8 hheap' hlen hS
          go_wp2_with fail
          refine (fromQueue_calls _ g es' _ (ho8.sl ev_len) (by have := HLN.out; omega)).mono ?_
          rintro r w9 ⟨v9, b9, rfl, hs9, hb9, hk9⟩
          have hrE := hk9.row hrE (no_not _)
          have hs8 := hs8.kp hk9 (no_not _)
          have hk09 := hk08.then hk9
          clear ho8 hb8 hk08 hbc
          have hs90 := hs9
          obtain ⟨a9, c9, rfl, hat9⟩ := hs9
          clear hat9
          have hw9 : w.heap.size < w9.heap.size := (Array.getElem?_eq_some_iff.1 hrE).1
          go_wp2_with (first
            | (at_make; refine wpList_make_empty (f := Ev.cells) rfl _ _ 37 rfl 40 zeroEv.val 48 Try.underlying37 Try.info40 (es.length + 1) _ rfl rfl (by omega) (by omega) (by omega) ?_; intro w10 ho10 hk10; have hs10 := hs8.kp hk10 (no_not _))
            | (at_builtin; refine wpList_append_room rfl _ _ 37 rfl ev_len ev_one 40 Try.underlying37 Try.size40 _ 0 _ [] rfl rfl (by exact ho10) b3 _ es rfl (by exact hs10) (by omega) ?_; intro w11 ho11 hk11; have hrE11 := hk11.row (hk10.row hrE (no_not _)) (fun e => by omega); obtain ⟨p0, p1, p2, p3, p4, p5, p6⟩ := ev_at (at_row hrE11); simp only [Nat.zero_add] at p0 p1 p2 p3 p4 p5 p6)
            | (at_builtin; refine wpList_append_room rfl _ _ 37 rfl ev_len ev_one 40 Try.underlying37 Try.size40 _ es.length _ es rfl rfl (by exact ho11.kp ((Kp.refl No w11).alloc _) (no_not _)) w11.heap.size _ [e] rfl (by exact sl_one (heap_alloc_new _ _)) (by simp) ?_; intro w12 ho12 hk12)
            | (go_at_call 12; refine (heapOrdered_calls _ b9 es' _ ?_ (by have := HLN.out; omega)).mono ?_))
          case refine_1 =>
            have hb9' : b9 < w9.heap.size := hs90.lt (by have := HLN.out; omega)
            exact (((hs90.kp hk10 (no_not _)).kp hk11 (fun e => by omega)).kp ((Kp.refl No w11).alloc _) (no_not _)).kp hk12 (fun e => by omega)
          case refine_2 =>
            have hb9' : b9 < w9.heap.size := hs90.lt (by have := HLN.out; omega)
            have hs12 := (((hs90.kp hk10 (no_not _)).kp hk11 (fun e => by omega)).kp ((Kp.refl No w11).alloc (.cells e.cells.toArray 40)) (no_not _)).kp hk12 (fun e => by omega)
            have hk12' : Kp No w w12 := (((hk09.then hk10).trans hk11 (fun q hq e => by omega)).alloc _).trans hk12 (fun q hq e => by omega)
            have hsw : Sl Ev.cells 7 w12 w9.heap.size (.slice (some ⟨w9.heap.size, 0, none⟩) (es.length + 1) (es.length + 1)) (es ++ [e]) := by
              have := ho12.sl ev_len
              rw [List.length_append] at this
              exact this
            rintro r w13 ⟨rb, rfl, hrb, hk13⟩
            have hrt : rb = true := hrb.2 hheap8
            subst hrt
            clear hrb hk10 hk11 hk12 hs90 hs10 ho11 ho12 hrE11 p0 p1 p2 p3 p4 p5 p6 ho10
            go_wp2_with fail
            refine (sameMultiset_calls _ _ b9 w9.heap.size es' (es ++ [e]) _ (hs12.kp hk13 (no_not _)) (hsw.kp hk13 (no_not _)) hperm (by have := HLN.out; omega)).mono ?_
            rintro r w14 ⟨rfl, hk14⟩
            go_wp2_with fail
            go_ret
            exact ⟨rfl, (hk12'.then hk13).then hk14⟩
    · have h2' : (4096 : Int) < (es.length : Int) := by omega
      have hd1 : decide (es.length ≤ 1048576) = true := decide_eq_true h1
      go_enter Try.func4, Try.ntmps4
      go_wp2_with fail
      refine (hbytes _).mono ?_
      rintro r w1 ⟨rfl, hk1⟩
      go_wp2_with fail
      go_ret
      exact ⟨rfl, ((Kp.refl No w).alloc _).then hk1⟩
  · have hd1 : decide (es.length ≤ 1048576) = false := decide_eq_false h1
    go_enter Try.func4, Try.ntmps4
    go_wp2_with fail
    refine (hbytes _).mono ?_
    rintro r w1 ⟨rfl, hk1⟩
    go_wp2_with fail
    go_ret
    exact ⟨rfl, ((Kp.refl No w).alloc _).then hk1⟩
end Go.Proofs.Qxb6003632a
