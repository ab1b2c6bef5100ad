import Derived.Test.Qxb6003632aScriptInv
namespace Go.Proofs.Qxb6003632a
open Go.RowKit

set_option maxHeartbeats 4000000 in
set_option maxRecDepth 100000 in
theorem scriptLaw_calls (v1 v2 : Value) (b1 b2 : Nat) (es : List Ev) (ps : List Bool) (w : World) (hs1 : Sl Ev.cells 7 w b1 v1 es) (hs2 : Sl bcell 1 w b2 v2 ps) (hn1 : es.length ≤ maxLen) (hn2 : ps.length ≤ maxLen) :
    Calls Try.prog 6 #[v1, v2] w fun r w' => r = .returned (.bool true) ∧ Kp No w w' := by
  have hs10 := hs1
  have hs20 := hs2
  obtain ⟨a1, c1, rfl, hat1⟩ := hs1
  obtain ⟨a2, c2, rfl, hat2⟩ := hs2
  clear hat1 hat2
  have hbytes := fun W => bytesScript_calls a1 es.length c1 a2 ps.length c2 W hn1 hn2
  unfold maxLen at hn1 hn2
  by_cases h1 : es.length ≤ 4096
  · have hd1 : decide ((4096 : Int) < (es.length : Int)) = false := decide_eq_false (by omega)
    by_cases h2 : ps.length ≤ 4096
    · have hd2 : decide ((4096 : Int) < (ps.length : Int)) = false := decide_eq_false (by omega)
      have hd3 : decide ((1048576 : Int) < 48 * (es.length : Int) + (ps.length : Int)) = false := decide_eq_false (by omega)
      go_enter Try.func6, Try.ntmps6
      go_wp2_with fail
      refine (hbytes _).mono ?_
      rintro r w1 ⟨rb, rfl, hk1⟩
      cases rb
      · go_wp2_with fail
        go_ret
        exact ⟨rfl, hk1⟩
      go_wp2_with fail
      refine (cloneEvs_calls _ b1 es _ (hs10.kp hk1 (no_not _)) (by omega)).mono ?_
      rintro r w2 ⟨v3, b3, rfl, hs3, hb3, hk2⟩
      have hk02 := hk1.then hk2
      have hs30 := hs3
      obtain ⟨a3, c3, rfl, hat3⟩ := hs3
      clear hat3
      go_wp2_with fail
      refine (cloneBools_calls _ b2 ps _ (hs20.kp hk02 (no_not _)) (by omega)).mono ?_
      rintro r w3 ⟨v4, b4, rfl, hs4, hb4, hk3⟩
      have hk03 := hk02.then hk3
      have hs31 := hs30.kp hk3 (no_not _)
      have hs40 := hs4
      obtain ⟨a4, c4, rfl, hat4⟩ := hs4
      clear hat4 hk1 hk2 hk3 hk02 hs30 hs10 hs20 hbytes
      go_wp2_with (at_make; refine wpList_make_empty (f := Ev.cells) rfl _ _ 37 rfl 40 zeroEv.val 48 Try.underlying37 Try.info40 es.length _ rfl rfl rfl (by omega) (by omega) ?_; intro w4 ho4 hk4)
      have hbq : Box (w3.alloc (.cells #[.slice none 0 0] 45)) w3.heap.size 45 (.slice none 0 0) := heap_alloc_new _ _
      have hb4 : Box w4 w3.heap.size 45 (.slice none 0 0) := hbq.kp hk4 (no_not _)
      have hkA : Kp No w3 w4 := ((Kp.refl No w3).alloc (.cells #[.slice none 0 0] 45)).then hk4
      have hs32 := hs31.kp hkA (no_not _)
      have hs42 := hs40.kp hkA (no_not _)
      have hl3 : 0 < es.length → b3 < w3.heap.size := fun h => hs31.lt h
      have hl4 : 0 < ps.length → b4 < w3.heap.size := fun h => bsl_lt hs40 h
      have hk04 := hk03.then hkA
      have hsz : w.heap.size ≤ w3.heap.size := hk03.size
      have hg4 : (w3.alloc (.cells #[.slice none 0 0] 45)).heap.size = w3.heap.size + 1 := Array.size_push _
      rw [hg4] at ho4
      have hgl := ho4.lt
      clear hk03 hk4 hbq hs31 hs40 hkA hg4
      generalize w3.heap.size = bq at *
      clear w3
      go_loopw [6, 7, 8, 9] (fun t6 t7 t8 t9 w' => ∃ (s nx : Nat) (hs ms : List Ev) (vq : Value), s ≤ ps.length ∧ t6 = .slice (some ⟨bq + 1, 0, none⟩) ms.length es.length ∧ t7 = .int .i64 nx ∧ t8 = .bool true ∧ t9 = .int .i64 s ∧ SInv w4 w' bq (bq + 1) es.length nx hs ms vq)
        (fun _ _ _ t9 _ => ps.length - (intOf t9).toNat)
      case atStart => exact ⟨0, 0, [], [], _, by omega, rfl, rfl, rfl, rfl, ⟨hb4, ⟨rfl, .inl ⟨rfl, rfl⟩⟩, fun k e => (by cases e), ho4, List.Perm.refl _, fun i hi => (by simp at hi), by simp, by omega, Kp.refl _ _⟩⟩
      case round =>
        clear hb4 ho4
        obtain ⟨s, nx, hs, ms, vq, hs1, rfl, rfl, rfl, rfl, hinv⟩ := hrel
        have HP : Hid (hs.Perm ms) := hinv.perm
        have HPL : Hid (hs.length = ms.length) := hinv.perm.length_eq
        have hmb : ms.length ≤ es.length := Nat.le_trans hinv.len hinv.nxt
        have hnx : nx ≤ es.length := hinv.nxt
        by_cases hlt : s < ps.length
        · obtain ⟨o4, c4', he4, hps⟩ := bool_at (hs42.kp0 hinv.kp (fun h e => by have := hl4 h; omega)) hlt
          simp only [Value.slice.injEq] at he4
          obtain ⟨rfl, _, rfl⟩ := he4
          cases hb : ps[s]
          · rw [hb] at hps
            clear hb
            by_cases hn0 : nx = es.length
            · have hz : ((nx : Int) == (es.length : Int)) = true := beq_iff_eq.2 (by omega)
              have HN0 : Hid (nx = es.length) := hn0
              clear hn0
              go_wp2_with fail
              go_roundw
              case rel => exact ⟨s + 1, nx, hs, ms, vq, by omega, rfl, rfl, rfl, by go_num, hinv⟩
              case measure => simp [intOf]; omega
            · have hz : ((nx : Int) == (es.length : Int)) = false := beq_eq_false_iff_ne.2 (by omega)
              have hnlt : nx < es.length := by omega
              have hbl : b3 < bq := hl3 (by omega)
              have hhb : hs.length ≤ 50000 := by have := HPL.out; omega
              obtain ⟨o3, ha3, h3⟩ := (show ∃ o3, a3 = some ⟨b3, o3, none⟩ ∧ At w4 b3 (o3 + nx * 7) es[nx].cells by
                obtain ⟨a', c', he, hh⟩ := hs32
                simp only [Value.slice.injEq] at he
                obtain ⟨rfl, _, _⟩ := he
                exact hh nx hnlt)
              subst ha3
              have HS32 : Hid (Sl Ev.cells 7 w4 b3 _ es) := hs32
              clear hs32
              obtain ⟨p0, p1, p2, p3, p4, p5, p6⟩ := ev_at (h3.kp hinv.kp (fun e => by omega))
              go_wp2_with fail
              refine (toEvent_calls es[nx] _).mono ?_
              rintro r w6 ⟨rfl, hk6⟩
              have hinv1 := hinv.then hk6
              clear hinv hk6 p0 p1 p2 p3 p4 p5 p6
              have hnq : vq.ownBlock ≠ some bq := fun e => by have := hinv1.new _ e; omega
              go_wp2_with fail
              refine (zzPush_calls bq vq hs es[nx] _ hinv1.box hinv1.row hnq hhb).mono ?_
              rintro r w7 ⟨rfl, g, cap, hs', hb7, ho7, hgb, hperm, hheap', hk7, hgg⟩
              have hPQ : ∀ q, q < w4.heap.size → PQ bq vq q → q = bq := fun q hq h => by
                rcases h with h | h
                · exact h
                · have := hinv1.new _ h; omega
              have hkk7 : Kp (fun k => k = bq ∨ k = bq + 1) w4 w7 := hinv1.kp.trans hk7 (fun q hq h => .inl (hPQ q hq h))
              have hom7 := hinv1.own.kp hk7 (fun h => by have := hPQ _ hgl h; omega)
              have hgw : w4.heap.size ≤ g := by
                rcases hgg with h | h
                · exact hinv1.new _ h
                · exact Nat.le_trans hinv1.kp.size h
              have hh7 : Heap hs' := hheap' hinv1.heap
              have HLEN : Hid (ms.length ≤ nx) := hinv1.len
              have hroom : ms.length + 1 ≤ es.length := by have := hinv1.len; omega
              clear hinv1 hnq hk7 hheap' hgg hPQ
              have hat7 := h3.kp hkk7 (fun e => by omega)
              obtain ⟨p0, p1, p2, p3, p4, p5, p6⟩ := ev_at hat7
              have hgl7 := ho7.lt
              have hbl7 := hb7.lt
              have hml7 := hom7.lt
              have hHM : Hid (hs'.length = ms.length + 1) := by
                have h1 := hperm.length_eq
                have h2 := HPL.out
                rw [List.length_append, h2] at h1
                exact h1
              have hne : ((hs'.length : Int) != (ms.length : Int) + 1) = false := by rw [hHM.out]; simp
              go_wp2_with (first
                | (at_builtin; refine wpList_append_room rfl _ _ 37 rfl ev_len ev_one 40 Try.underlying37 Try.size40 _ ms.length _ ms rfl rfl (by exact hom7.kp ((Kp.refl No w7).alloc _) (no_not _)) w7.heap.size _ [es[nx]] rfl (by exact sl_one (heap_alloc_new _ _)) (by exact hroom) ?_; intro w8 ho8 hk8; have hcell := ((hb7.kp ((Kp.refl No w7).alloc (.cells es[nx].cells.toArray 40)) (no_not _)).kp hk8 (fun e => by omega)).cell)
                | fail)
              have hkA := (Kp.refl No w7).alloc (.cells es[nx].cells.toArray 40)
              have hb9 := (hb7.kp hkA (no_not _)).kp hk8 (fun e => by omega)
              have ho9 := (ho7.kp hkA (no_not _)).kp hk8 (fun e => by omega)
              have hkk9 : Kp (fun k => k = bq ∨ k = bq + 1) w4 w8 := (hkk7.alloc _).trans hk8 (fun q hq e => .inr e)
              have hpp : hs'.Perm (ms ++ [es[nx]]) := hperm.trans (HP.out.append_right _)
              have hinv2 : SInv w4 w8 bq (bq + 1) es.length (nx + 1) hs' (ms ++ [es[nx]]) (.slice (some ⟨g, 0, none⟩) hs'.length cap) :=
                ⟨hb9, ho9, fun k e => (by cases e; exact hgw), ho8, hpp, hh7, (by have := HLEN.out; rw [List.length_append]; simp; omega), by omega, hkk9⟩
              clear hkA hb9 ho9 hkk9 hk8 ho8 hkk7 hom7 hb7 ho7 hat7 p0 p1 p2 p3 p4 p5 p6
              refine (queueOrdered_calls _ g hs' _ (Own.sl ev_len hinv2.row) (by have := hHM.out; omega)).mono ?_
              rintro r w10 ⟨rb, rfl, hrb, hk12⟩
              have hrt : rb = true := hrb.2 hinv2.heap
              subst hrt
              clear hrb
              have hinv3 := hinv2.then hk12
              go_wp2_with fail
              go_roundw
              case rel => exact ⟨s + 1, nx + 1, hs', ms ++ [es[nx]], _, by omega, by rw [List.length_append]; rfl, by go_num, rfl, by go_num, hinv3⟩
              case measure => simp [intOf]; omega
          · rw [hb] at hps
            clear hb
            by_cases hm0 : ms.length = 0
            · have hz : ((ms.length : Int) == 0) = true := beq_iff_eq.2 (by omega)
              clear hm0
              go_wp2_with fail
              go_roundw
              case rel => exact ⟨s + 1, nx, hs, ms, vq, by omega, rfl, rfl, rfl, by go_num, hinv⟩
              case measure => simp [intOf]; omega
            · have hz : ((ms.length : Int) == 0) = false := beq_eq_false_iff_ne.2 (by omega)
              have hpos : 0 < hs.length := by have := HPL.out; omega
              have hhb : hs.length ≤ 50000 := by have := HPL.out; omega
              obtain ⟨g, cap, rfl, hog, hgw⟩ := hinv.pos hpos
              go_wp2_with fail
              refine (zzPop_calls bq g _ hs _ hpos hinv.box hog (by omega) hhb).mono ?_
              rintro r w6 ⟨rfl, hs', hlen, hb7, ho7, hperm, hheap', hk6⟩
              have hom := hinv.own.kp hk6 (fun h => by rcases h with h | h <;> omega)
              have hmin := heap_min hinv.heap hpos
              have hkk : Kp (fun k => k = bq ∨ k = bq + 1) w4 w6 := hinv.kp.trans hk6 (fun q hq h => by rcases h with h | h <;> omega)
              clear hog hk6
              go_wp2_with fail
              refine (fromEvent_calls hs[0] _).mono ?_
              rintro r w7 ⟨rfl, hk7⟩
              have hb8 := hb7.kp hk7 (no_not _)
              have ho8 := ho7.kp hk7 (no_not _)
              have hom8 := hom.kp hk7 (no_not _)
              have hkk8 := hkk.then hk7
              clear hb7 ho7 hom hkk hk7
              have hbl8 := hb8.lt
              have hgl8 := ho8.lt
              have hml8 := hom8.lt
              have HLN : Hid (hs'.length + 1 = hs.length) := hlen
              clear hlen
              have hmin' : ∀ x ∈ ms, keyLess x hs[0] = false := fun x hx => hmin x (HP.out.mem_iff.2 hx)
              have hmem' : hs[0] ∈ ms := HP.out.mem_iff.1 (List.getElem_mem _)
              go_wp2_with (refine wpList_store_own rfl 40 _ _ rfl ev_len 40 w7.heap.size 1 [zeroEv] 0 hs[0] _ rfl (by rfl) hs[0].val rfl rfl (ev_one _) Try.size40 (by exact (own_one ev_len).2 (heap_alloc_new _ _)) (by simp) ?_; intro w8 ho9 hk9; obtain ⟨t0, t1, t2, t3, t4, t5, t6⟩ := ev_at (at_row ((own_one ev_len).1 ho9)); simp only [Nat.zero_add] at t0 t1 t2 t3 t4 t5 t6)
              have hkA := (Kp.refl No w7).alloc (.cells zeroEv.cells.toArray 40)
              have hb10 := (hb8.kp hkA (no_not _)).kp hk9 (fun e => by omega)
              have ho10 := (ho8.kp hkA (no_not _)).kp hk9 (fun e => by omega)
              have hom10 := (hom8.kp hkA (no_not _)).kp hk9 (fun e => by omega)
              have hkk10 : Kp (fun k => k = bq ∨ k = bq + 1) w4 w8 := (hkk8.alloc _).trans hk9 (fun q hq e => by have := hkk8.size; omega)
              clear hk9 ho9 hb8 ho8 hom8 hkk8 hkA t0 t1 t2 t3 t4 t5 t6
              refine (takeLeast_calls (bq + 1) es.length ms hs[0] _ hom10 hmin' hmem' (by omega) (by omega)).mono ?_
              rintro r w9 ⟨ms', rfl, hml, hmp, hom11, hk11⟩
              have hb11 := hb10.kp hk11 (fun e => by omega)
              have ho11 := ho10.kp hk11 (fun e => by omega)
              have hkk11 := hkk10.trans hk11 (fun q hq e => .inr e)
              have hinv2 := hinv.pop hb11 hgw ho11 hperm hheap' hmp hml hom11 hkk11
              clear hinv hb11 ho11 hkk11 hb10 ho10 hkk10 hom11 hk11 hmin hmin' hmem' hperm hheap' hom10
              have hHM : Hid (hs'.length = ms'.length) := hinv2.perm.length_eq
              have hcell := hinv2.box.cell
              have hne : ((hs'.length : Int) != (ms'.length : Int)) = false := by rw [hHM.out]; simp
              go_wp2_with fail
              refine (queueOrdered_calls _ g hs' _ (Own.sl ev_len hinv2.row) (by have := HLN.out; omega)).mono ?_
              rintro r w10 ⟨rb, rfl, hrb, hk12⟩
              have hrt : rb = true := hrb.2 hinv2.heap
              subst hrt
              clear hrb
              have hinv3 := hinv2.then hk12
              go_wp2_with fail
              go_roundw
              case rel => exact ⟨s + 1, nx, hs', ms', _, by omega, rfl, rfl, rfl, by go_num, hinv3⟩
              case measure => simp [intOf]; omega
        · clear hs32 hs42
          go_wp2_with fail
          go_loopw [6, 8] (fun t6 t8 w' => ∃ (hs ms : List Ev) (vq : Value), t6 = .slice (some ⟨bq + 1, 0, none⟩) ms.length es.length ∧ t8 = .bool true ∧ SInv w4 w' bq (bq + 1) es.length nx hs ms vq)
            (fun t6 _ _ => match t6 with | .slice _ n _ => n | _ => 0)
          case atStart => exact ⟨hs, ms, vq, rfl, rfl, hinv⟩
          case round =>
            clear hinv HP HPL hmb
            obtain ⟨hs, ms, vq, rfl, rfl, hinv⟩ := hrel
            have HP : Hid (hs.Perm ms) := hinv.perm
            have HPL : Hid (hs.length = ms.length) := hinv.perm.length_eq
            have hmb : ms.length ≤ es.length := Nat.le_trans hinv.len hinv.nxt
            have hhb : hs.length ≤ 50000 := by have := HPL.out; omega
            have hcell := hinv.box.cell
            by_cases hm0 : 0 < ms.length
            · have hpos : 0 < hs.length := by have := HPL.out; omega
              obtain ⟨g, cap, rfl, hog, hgw⟩ := hinv.pos hpos
              have hne : ((hs.length : Int) != (ms.length : Int)) = false := by rw [HPL.out]; simp
              go_wp2_with fail
              refine (zzPop_calls bq g _ hs _ hpos hinv.box hog (by omega) hhb).mono ?_
              rintro r w6 ⟨rfl, hs', hlen, hb7, ho7, hperm, hheap', hk6⟩
              have hom := hinv.own.kp hk6 (fun h => by rcases h with h | h <;> omega)
              have hmin := heap_min hinv.heap hpos
              have hkk : Kp (fun k => k = bq ∨ k = bq + 1) w4 w6 := hinv.kp.trans hk6 (fun q hq h => by rcases h with h | h <;> omega)
              clear hog hk6 hcell
              go_wp2_with fail
              refine (fromEvent_calls hs[0] _).mono ?_
              rintro r w7 ⟨rfl, hk7⟩
              have hb8 := hb7.kp hk7 (no_not _)
              have ho8 := ho7.kp hk7 (no_not _)
              have hom8 := hom.kp hk7 (no_not _)
              have hkk8 := hkk.then hk7
              clear hb7 ho7 hom hkk hk7
              have hbl8 := hb8.lt
              have hgl8 := ho8.lt
              have hml8 := hom8.lt
              have HLN : Hid (hs'.length + 1 = hs.length) := hlen
              clear hlen
              have hmin' : ∀ x ∈ ms, keyLess x hs[0] = false := fun x hx => hmin x (HP.out.mem_iff.2 hx)
              have hmem' : hs[0] ∈ ms := HP.out.mem_iff.1 (List.getElem_mem _)
              go_wp2_with (refine wpList_store_own rfl 40 _ _ rfl ev_len 40 w7.heap.size 1 [zeroEv] 0 hs[0] _ rfl (by rfl) hs[0].val rfl rfl (ev_one _) Try.size40 (by exact (own_one ev_len).2 (heap_alloc_new _ _)) (by simp) ?_; intro w8 ho9 hk9; obtain ⟨t0, t1, t2, t3, t4, t5, t6⟩ := ev_at (at_row ((own_one ev_len).1 ho9)); simp only [Nat.zero_add] at t0 t1 t2 t3 t4 t5 t6)
              have hkA := (Kp.refl No w7).alloc (.cells zeroEv.cells.toArray 40)
              have hb10 := (hb8.kp hkA (no_not _)).kp hk9 (fun e => by omega)
              have ho10 := (ho8.kp hkA (no_not _)).kp hk9 (fun e => by omega)
              have hom10 := (hom8.kp hkA (no_not _)).kp hk9 (fun e => by omega)
              have hkk10 : Kp (fun k => k = bq ∨ k = bq + 1) w4 w8 := (hkk8.alloc _).trans hk9 (fun q hq e => by have := hkk8.size; omega)
              clear hk9 ho9 hb8 ho8 hom8 hkk8 hkA t0 t1 t2 t3 t4 t5 t6
              refine (takeLeast_calls (bq + 1) es.length ms hs[0] _ hom10 hmin' hmem' (by omega) (by omega)).mono ?_
              rintro r w9 ⟨ms', rfl, hml, hmp, hom11, hk11⟩
              have hb11 := hb10.kp hk11 (fun e => by omega)
              have ho11 := ho10.kp hk11 (fun e => by omega)
              have hkk11 := hkk10.trans hk11 (fun q hq e => .inr e)
              have hinv2 := hinv.pop hb11 hgw ho11 hperm hheap' hmp hml hom11 hkk11
              clear hinv hb11 ho11 hkk11 hb10 ho10 hkk10 hom11 hk11 hmin hmin' hmem' hperm hheap' hom10
              go_wp2_with fail
              go_roundw
              case rel => exact ⟨hs', ms', _, rfl, rfl, hinv2⟩
              case measure => show ms'.length < ms.length; omega
            · have hm1 : ms.length = 0 := by omega
              have hh0 : hs.length = 0 := by have := HPL.out; omega
              obtain ⟨av, cv, bv, rfl, hsv⟩ := hinv.sl
              have hz0 : ((hs.length : Int) == 0) = true := beq_iff_eq.2 (by omega)
              have HH : Hid (hs.length = 0) := hh0
              have HM : Hid (ms.length = 0) := hm1
              have hz1 : decide ((0 : Int) < (ms.length : Int)) = false := decide_eq_false (by omega)
              clear hh0 hm1 hz1
              go_wp2_with fail
              go_ret
              refine ⟨?_, hk04.trans hinv.kp (fun q hq h => by rcases h with h | h <;> omega)⟩
              rfl
    · have hd2 : decide ((4096 : Int) < (ps.length : Int)) = true := decide_eq_true (by omega)
      go_enter Try.func6, Try.ntmps6
      go_wp2_with fail
      refine (hbytes _).mono ?_
      rintro r w1 ⟨rb, rfl, hk1⟩
      cases rb
      · go_wp2_with fail
        go_ret
        exact ⟨rfl, hk1⟩
      go_wp2_with fail
      go_ret
      exact ⟨rfl, hk1⟩
  · have hd1 : decide ((4096 : Int) < (es.length : Int)) = true := decide_eq_true (by omega)
    go_enter Try.func6, Try.ntmps6
    go_wp2_with fail
    refine (hbytes _).mono ?_
    rintro r w1 ⟨rb, rfl, hk1⟩
    cases rb
    · go_wp2_with fail
      go_ret
      exact ⟨rfl, hk1⟩
    go_wp2_with fail
    go_ret
    exact ⟨rfl, hk1⟩
end Go.Proofs.Qxb6003632a
