/-
  The walk of FnQueuePopTakesLeast.
-/
import Derived.Test.Qxb6003632aPushLaw
namespace Go.Proofs.Qxb6003632a
open Go.RowKit

set_option maxHeartbeats 400000 in
theorem bytesPop_calls (a : Option Addr) (n c : Nat) (w : World) (hn : n ≤ maxLen) :
    Calls Try.prog 18 #[.slice a n c] w fun r w' => r = .returned (.bool (decide (n ≤ 1048576))) ∧ Kp No w w' := by
  unfold maxLen at hn
  by_cases h : n ≤ 1048576
  · go_enter Try.func18, Try.ntmps18
    go_wp2
    go_ret
    exact ⟨by simp [h], Kp.refl No w⟩
  · have h' : 1048576 < n := by omega
    go_enter Try.func18, Try.ntmps18
    go_wp2
    go_ret
    exact ⟨by simp [h], Kp.refl No w⟩

set_option maxHeartbeats 4000000 in
set_option maxRecDepth 100000 in
theorem popLaw_calls (v : Value) (b : Nat) (es : List Ev) (w : World) (hs : Sl Ev.cells 7 w b v es) (hn : es.length ≤ maxLen) :
    Calls Try.prog 5 #[v] w fun r w' => r = .returned (.bool true) ∧ Kp No w w' := by
  have hs0 := hs
  obtain ⟨a, c, rfl, hat⟩ := hs
  clear hat
  have hbytes := fun W => bytesPop_calls a es.length c W hn
  unfold maxLen at hn
  by_cases h1 : es.length ≤ 1048576
  · by_cases h2 : es.length ≤ 4096
    · have hd2 : decide ((4096 : Int) < (es.length : Int)) = false := decide_eq_false (by omega)
      have hd3 : decide ((1048576 : Int) < 48 * (es.length : Int)) = false := decide_eq_false (by omega)
      have hd1 : decide (es.length ≤ 1048576) = true := decide_eq_true h1
      by_cases h0 : es.length = 0
      · have hd4 : ((es.length : Int) == 0) = true := beq_iff_eq.2 (by omega)
        have H0 : Hid (es.length = 0) := h0
        clear h0
        go_enter Try.func5, Try.ntmps5
        go_wp2_with fail
        refine (hbytes _).mono ?_
        rintro r w1 ⟨rfl, hk1⟩
        go_wp2_with fail
        go_ret
        exact ⟨rfl, hk1⟩
      have hd4 : ((es.length : Int) == 0) = false := beq_eq_false_iff_ne.2 (by omega)
      have hpos : 0 < es.length := by omega
      clear h0
      go_enter Try.func5, Try.ntmps5
      go_wp2_with fail
      refine (hbytes _).mono ?_
      rintro r w1 ⟨rfl, hk1⟩
      go_wp2_with fail
      refine (heapOrdered_calls _ b es _ (hs0.kp hk1 (no_not _)) (by omega)).mono ?_
      rintro r w2 ⟨rb, rfl, hrb, hk2⟩
      cases rb
      · go_wp2_with fail
        go_ret
        exact ⟨rfl, hk1.then hk2⟩
      have hheap : Heap es := hrb.1 rfl
      clear hrb
      go_wp2_with fail
      have hk02 := hk1.then hk2
      refine (cloneEvs_calls _ b es _ (hs0.kp hk02 (no_not _)) (by omega)).mono ?_
      rintro r w3 ⟨v3, b3, rfl, hs3, hb3, hk3⟩
      have hk03 := hk02.then hk3
      have hlt3 : b3 < w3.heap.size := hs3.lt hpos
      have hs30 := hs3
      obtain ⟨a3, c3, rfl, hat3⟩ := hs3
      clear hk1 hk2 hk3 hk02 hs0 hbytes
      go_wp2_with (at_make; refine wpList_make_row rfl _ _ 45 rfl ev_len 48 zeroEv zeroEv.val 48 Try.underlying45 Try.info48 rfl es.length _ rfl rfl rfl (by omega) (by omega) ?_; intro w4 ho4 hk4)
      have hgq : w3.heap.size < w4.heap.size := ho4.lt
      have hb5 : Box (w4.alloc (.cells #[.slice (some ⟨w3.heap.size, 0, none⟩) es.length es.length] 45)) w4.heap.size 45 (.slice (some ⟨w3.heap.size, 0, none⟩) es.length es.length) := heap_alloc_new _ _
      have hk5 := hk4.alloc (.cells #[.slice (some ⟨w3.heap.size, 0, none⟩) es.length es.length] 45)
      have ho5 := ho4.kp ((Kp.refl No w4).alloc (.cells #[.slice (some ⟨w3.heap.size, 0, none⟩) es.length es.length] 45)) (no_not _)
      have hk05 := hk03.then hk5
      have hs5 := hs30.kp hk5 (no_not _)
      have hwg : w.heap.size ≤ w3.heap.size := hk03.size
      generalize (w4.alloc (.cells #[.slice (some ⟨w3.heap.size, 0, none⟩) es.length es.length] 45)) = w5 at *
      generalize w4.heap.size = bq at *
      generalize w3.heap.size = gh at *
      clear ho4 hk4 hk5 hs30 hk03
      go_loopw [4] (fun t w' => ∃ (i : Nat) (zs : List Ev), i ≤ es.length ∧ zs.length = es.length ∧ (∀ j (h : j < es.length) (h2 : j < zs.length), j < i → zs[j] = es[j]) ∧ t = .int .i64 i ∧ Own Ev.cells 7 w' 48 gh es.length zs ∧ Box w' bq 45 (.slice (some ⟨gh, 0, none⟩) es.length es.length) ∧ Kp (fun k => k = gh) w5 w') (fun t _ => es.length - (intOf t).toNat)
      case atStart => exact ⟨0, _, by omega, by simp, fun j _ _ h => by omega, rfl, ho5, hb5, Kp.refl _ _⟩
      case round =>
        clear ho5 hb5
        obtain ⟨i, zs, hi, hl, heq, rfl, ho, hb, hk⟩ := hrel
        have HEQ : Hid (∀ j (h : j < es.length) (h2 : j < zs.length), j < i → zs[j] = es[j]) := heq
        have HL : Hid (zs.length = es.length) := hl
        clear heq hl
        by_cases hlt : i < es.length
        · obtain ⟨o3, ha3, h3⟩ := (show ∃ o3, a3 = some ⟨b3, o3, none⟩ ∧ At w5 b3 (o3 + i * 7) es[i].cells by
            obtain ⟨a', c', he, hh⟩ := hs5
            simp only [Value.slice.injEq] at he
            obtain ⟨rfl, _, _⟩ := he
            exact hh i hlt)
          subst ha3
          obtain ⟨p0, p1, p2, p3, p4, p5, p6⟩ := ev_at (h3.kp hk (fun e => by omega))
          have hbc := hb.cell
          have HS5 : Hid (Sl Ev.cells 7 w5 b3 _ es) := hs5
          clear h3 hs5
          go_wp2_with fail
          refine wp_region_two [2, 3, 5, 38] 0 6 [1, 2, 3, 4, 5, 6, 0, 7, 8] Try.mixed (by kernel_rfl) ?_ ?_
          · go_wp2_with (first
              | (go_at_call 14; refine (toEvent_calls es[i] _).mono ?_; rintro r w6 ⟨rfl, hk6⟩; have hbc := (hb.drew.kp hk6 (no_not _)).cell)
              | (refine wpList_store_own rfl 48 _ _ rfl ev_len 48 gh es.length zs i es[i] _ rfl (by rfl) es[i].val rfl rfl (ev_one _) Try.size48 (by exact (show Own Ev.cells 7 (World.drew _) 48 gh es.length zs from ho).kp hk6 (no_not _)) (by rw [HL.out]; exact hlt) ?_; intro w7 ho7 hk7))
            refine ⟨by kernel_rfl, ?_⟩
            have hb7 := (hb.drew.kp hk6 (no_not _)).kp hk7 (fun e => by omega)
            have hk7 := (hk.drew.then hk6).trans hk7 (fun _ _ h => h)
            go_wp2_with fail
            go_roundw
            case rel =>
              refine ⟨i + 1, zs.set i es[i], by omega, by rw [List.length_set]; exact HL.out, ?_, by go_num, ho7, hb7, hk7⟩
              intro j h1 h2 hji
              rw [List.getElem_set]
              by_cases e : i = j
              · subst e; simp
              · rw [if_neg e]; exact HEQ.out j h1 (by simpa using h2) (by omega)
            case measure => simp [intOf]; omega
          · simp only [pick, List.map_cons, List.map_nil, nth]
            go_wp2_with (first
              | (go_at_call 14; refine (toEvent_calls es[i] _).mono ?_; rintro r w6 ⟨rfl, hk6⟩; have hbc := (hb.drew.kp hk6 (no_not _)).cell)
              | (refine wpList_store_own rfl 48 _ _ rfl ev_len 48 gh es.length zs i es[i] _ rfl (by rfl) es[i].val rfl rfl (ev_one _) Try.size48 (by exact (show Own Ev.cells 7 (World.drew _) 48 gh es.length zs from ho).kp hk6 (no_not _)) (by rw [HL.out]; exact hlt) ?_; intro w7 ho7 hk7))
            refine ⟨by kernel_rfl, ?_⟩
            have hb7 := (hb.drew.kp hk6 (no_not _)).kp hk7 (fun e => by omega)
            have hk7 := (hk.drew.then hk6).trans hk7 (fun _ _ h => h)
            go_wp2_with fail
            go_roundw
            case rel =>
              refine ⟨i + 1, zs.set i es[i], by omega, by rw [List.length_set]; exact HL.out, ?_, by go_num, ho7, hb7, hk7⟩
              intro j h1 h2 hji
              rw [List.getElem_set]
              by_cases e : i = j
              · subst e; simp
              · rw [if_neg e]; exact HEQ.out j h1 (by simpa using h2) (by omega)
            case measure => simp [intOf]; omega
        · have hzs : zs = es := List.ext_getElem HL.out (fun j h1 h2 => HEQ.out j h2 h1 (by omega))
          rw [hzs] at ho
          clear hzs HEQ HL
          have hs6 := hs5.kp0 hk (fun h e => by omega)
          have hk06 : Kp No w wr := hk05.trans hk (fun q hq e => by omega)
          have hbl := hb.lt
          clear hs5 hk05 hk
          go_wp2_with fail
          refine (zzPop_calls bq gh _ es _ hpos hb ho (by omega) (by omega)).mono ?_
          rintro r w6 ⟨rfl, hs, hlen, hb7, ho7, hperm, hheap', hk6⟩
          have hS : ∀ q, (q = bq ∨ q = gh) → q < w.heap.size → No q := fun q h hq => by rcases h with h | h <;> omega
          have hs7 := hs6.kp hk6 (fun h => by rcases h with h | h <;> omega)
          have hk07 : Kp No w w6 := hk06.trans hk6 (fun q hq h => hS q h hq)
          have hheap8 := hheap' hheap
          have hmin := heap_min hheap hpos
          clear hb ho hs6 hk06 hk6 hheap'
          go_wp2_with fail
          refine (fromEvent_calls es[0] _).mono ?_
          rintro r w7 ⟨rfl, hk7⟩
          have hs8 := hs7.kp hk7 (no_not _)
          have hb8 := hb7.kp hk7 (no_not _)
          have ho8 := ho7.kp hk7 (no_not _)
          have hk08 := hk07.then hk7
          clear hs7 hb7 ho7 hk07 hk7
          have hbl8 := hb8.lt
          have hgl8 := ho8.lt
          have hlt8 : b3 < w7.heap.size := hs8.lt hpos
          have hbc : Box (w7.alloc (.cells zeroEv.cells.toArray 40)) bq 45 _ := hb8.kp ((Kp.refl No w7).alloc _) (no_not _)
          have HLN : Hid (hs.length + 1 = es.length) := hlen
          have hlI : ((hs.length : Int) != (es.length : Int) - 1) = false := by simp; omega
          clear hlen
          go_wp2_with (refine wpList_store_own rfl 40 _ _ rfl ev_len 40 w7.heap.size 1 [zeroEv] 0 es[0] _ rfl (by rfl) es[0].val rfl rfl (ev_one _) Try.size40 (by exact (own_one ev_len).2 (heap_alloc_new _ _)) (by simp) ?_; intro w8 ho9 hk9; have hb9 := hbc.kp hk9 (fun e => by omega); have hbc9 := hb9.cell)
          have hk10 : Kp No w w8 := (hk08.alloc _).trans hk9 (fun q hq e => by omega)
          have hs10 := (hs8.kp ((Kp.refl No w7).alloc (.cells zeroEv.cells.toArray 40)) (no_not _)).kp hk9 (fun e => by omega)
          have ho10 := (ho8.kp ((Kp.refl No w7).alloc (.cells zeroEv.cells.toArray 40)) (no_not _)).kp hk9 (fun e => by omega)
          have htop := (own_one ev_len).1 ho9
          generalize w7.heap.size = bt at *
          clear hk9 ho9 hs8 hb8 ho8 hk08 hbc hbc9
          go_loopw [6] (fun t w' => ∃ i : Nat, i ≤ es.length ∧ t = .int .i64 i ∧ Kp No w8 w') (fun t _ => es.length - (intOf t).toNat)
          case atStart => exact ⟨0, by omega, rfl, Kp.refl _ _⟩
          case round =>
            obtain ⟨i2, hi2, rfl, hk11⟩ := hrel
            have htop := hk11.row htop (no_not _)
            obtain ⟨t0, t1, t2, t3, t4, t5, t6⟩ := ev_at (at_row htop)
            simp only [Nat.zero_add] at t0 t1 t2 t3 t4 t5 t6
            by_cases hlt2 : i2 < es.length
            · obtain ⟨o3, ha3, h3⟩ := (show ∃ o3, a3 = some ⟨b3, o3, none⟩ ∧ At w8 b3 (o3 + i2 * 7) es[i2].cells by
                obtain ⟨a', c', he, hh⟩ := hs10
                simp only [Value.slice.injEq] at he
                obtain ⟨rfl, _, _⟩ := he
                exact hh i2 hlt2)
              subst ha3
              obtain ⟨p0, p1, p2, p3, p4, p5, p6⟩ := ev_at (h3.kp hk11 (no_not _))
              have hkl : keyLess es[i2] es[0] = false := hmin es[i2] (List.getElem_mem _)
              have HS5 : Hid (Sl Ev.cells 7 w8 b3 _ es) := hs10
              clear h3 hs10
              go_wp2_with fail
              refine wp_region_text [2, 3, 5, 38] Try.mixed (by kernel_rfl) ?_
              go_wp2_with fail
              refine (keyLess_calls es[i2] es[0] _).mono ?_
              rintro r w9 ⟨rfl, hk12⟩
              go_wp2_with fail
              refine ⟨by kernel_rfl, ?_⟩
              go_wp2_with fail
              go_roundw
              case rel => exact ⟨i2 + 1, by omega, by go_num, hk11.drew.then hk12⟩
              case measure => simp [intOf]; omega
            · have hb11 := hb9.kp hk11 (no_not _)
              have ho11 := ho10.kp hk11 (no_not _)
              have hs11 := hs10.kp hk11 (no_not _)
              have hk011 := hk10.then hk11
              have hbc11 := hb11.cell
              clear hs10 hb9 ho10 hk10 hk11 t0 t1 t2 t3 t4 t5 t6
              go_wp2_with fail
              refine (fromQueue_calls _ gh hs _ (ho11.sl ev_len) (by have := HLN.out; omega)).mono ?_
              rintro r w9 ⟨v9, b9, rfl, hs9, hb99, hk12⟩
              have htop := hk12.row htop (no_not _)
              have hs12 := hs11.kp hk12 (no_not _)
              have hk012 := hk011.then hk12
              clear ho11 hb11 hk011 hbc11 hs11
              have hs90 := hs9
              obtain ⟨a9, c9, rfl, hat9⟩ := hs9
              clear hat9
              have hlt9 : 0 < hs.length → b9 < w9.heap.size := fun h => hs90.lt h
              have hw9 : bt < w9.heap.size := (Array.getElem?_eq_some_iff.1 htop).1
              have hw99 : b3 < w9.heap.size := hs12.lt hpos
              have hww : w.heap.size ≤ w9.heap.size := hk012.size
              go_wp2_with (first
                | (at_make; refine wpList_make_empty (f := Ev.cells) rfl _ _ 37 rfl 40 zeroEv.val 48 Try.underlying37 Try.info40 es.length _ rfl rfl (by omega) (by omega) (by omega) ?_; intro w10 ho10 hk10; have hs10 := hs90.kp hk10 (no_not _))
                | (at_builtin; refine wpList_append_room rfl _ _ 37 rfl ev_len ev_one 40 Try.underlying37 Try.size40 _ 0 _ [] rfl rfl (by exact ho10) b9 _ hs rfl (by exact hs10) (by have := HLN.out; omega) ?_; intro w11 ho11 hk11; have htop11 := hk11.row (hk10.row htop (no_not _)) (fun e => by omega); obtain ⟨p0, p1, p2, p3, p4, p5, p6⟩ := ev_at (at_row htop11); simp only [Nat.zero_add] at p0 p1 p2 p3 p4 p5 p6)
                | (at_builtin; refine wpList_append_room rfl _ _ 37 rfl ev_len ev_one 40 Try.underlying37 Try.size40 _ hs.length _ hs rfl rfl (by exact ho11.kp ((Kp.refl No w11).alloc _) (no_not _)) w11.heap.size _ [es[0]] rfl (by exact sl_one (heap_alloc_new _ _)) (by have := HLN.out; simp; omega) ?_; intro w12 ho12 hk12)
                | (go_at_call 12; refine (heapOrdered_calls _ b9 hs _ ?_ (by have := HLN.out; omega)).mono ?_))
              case refine_1 =>
                exact (((hs90.kp hk10 (no_not _)).kp0 hk11 (fun h e => by have := hlt9 h; omega)).kp ((Kp.refl No w11).alloc _) (no_not _)).kp0 hk12 (fun h e => by have := hlt9 h; omega)
              case refine_2 =>
                have hs13 := (((hs90.kp hk10 (no_not _)).kp0 hk11 (fun h e => by have := hlt9 h; omega)).kp ((Kp.refl No w11).alloc (.cells es[0].cells.toArray 40)) (no_not _)).kp0 hk12 (fun h e => by have := hlt9 h; omega)
                have hs14 := (((hs12.kp hk10 (no_not _)).kp hk11 (fun e => by omega)).kp ((Kp.refl No w11).alloc (.cells es[0].cells.toArray 40)) (no_not _)).kp hk12 (fun e => by omega)
                have hk12' : Kp No w w12 := (((hk012.then hk10).trans hk11 (fun q hq e => by omega)).alloc _).trans hk12 (fun q hq e => by omega)
                have hsw : Sl Ev.cells 7 w12 w9.heap.size (.slice (some ⟨w9.heap.size, 0, none⟩) (hs.length + 1) es.length) (hs ++ [es[0]]) := by
                  have := ho12.sl ev_len
                  rw [List.length_append] at this
                  exact this
                rintro r w13 ⟨rb, rfl, hrb, hk13⟩
                have hrt : rb = true := hrb.2 hheap8
                subst hrt
                have hpp : (hs ++ [es[0]]).Perm es := (List.perm_append_singleton _ _).trans hperm
                clear hrb hk10 hk11 hk12 hs90 hs10 ho11 ho12 htop11 p0 p1 p2 p3 p4 p5 p6 ho10
                go_wp2_with fail
                refine (sameMultiset_calls _ _ w9.heap.size b3 (hs ++ [es[0]]) es _ (hsw.kp hk13 (no_not _)) (hs14.kp hk13 (no_not _)) hpp (by have := HLN.out; simp; omega)).mono ?_
                rintro r w14 ⟨rfl, hk14⟩
                go_wp2_with fail
                go_ret
                exact ⟨rfl, (hk12'.then hk13).then hk14⟩
    · have h2' : (4096 : Int) < (es.length : Int) := by omega
      have hd1 : decide (es.length ≤ 1048576) = true := decide_eq_true h1
      go_enter Try.func5, Try.ntmps5
      go_wp2_with fail
      refine (hbytes _).mono ?_
      rintro r w1 ⟨rfl, hk1⟩
      go_wp2_with fail
      go_ret
      exact ⟨rfl, hk1⟩
  · have hd1 : decide (es.length ≤ 1048576) = false := decide_eq_false h1
    go_enter Try.func5, Try.ntmps5
    go_wp2_with fail
    refine (hbytes _).mono ?_
    rintro r w1 ⟨rfl, hk1⟩
    go_wp2_with fail
    go_ret
    exact ⟨rfl, hk1⟩
end Go.Proofs.Qxb6003632a
