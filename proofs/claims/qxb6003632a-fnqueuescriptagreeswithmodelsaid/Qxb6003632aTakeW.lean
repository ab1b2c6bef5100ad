/-
  The contracts of takeLeast, cloneBools and zzBytes of the script.
-/
import Derived.Test.Qxb6003632aPushLaw
import Derived.Test.Qxb6003632aGen4
namespace Go.Proofs.Qxb6003632a
open Go.RowKit

theorem erase_perm (ms : List Ev) (j : Nat) (h : j < ms.length) : (ms[j] :: ms.eraseIdx j).Perm ms := by
  rw [List.eraseIdx_eq_take_drop_succ]
  have e : ms = ms.take j ++ ms[j] :: ms.drop (j + 1) := by rw [← List.drop_eq_getElem_cons h, List.take_append_drop]
  conv => rhs; rw [e]
  exact List.perm_middle.symm

set_option maxHeartbeats 2000000 in
set_option maxRecDepth 100000 in
theorem takeLeast_calls (g cap : Nat) (ms : List Ev) (top : Ev) (w : World) (hown : Own Ev.cells 7 w 40 g cap ms) (hmin : ∀ x ∈ ms, keyLess x top = false) (hmem : top ∈ ms) (hn : ms.length ≤ 50000) (hcb : cap ≤ 50000) :
    Calls Try.prog 24 #[.slice (some ⟨g, 0, none⟩) ms.length cap, top.val] w fun r w' => ∃ ms', r = .returned (.tuple #[.slice (some ⟨g, 0, none⟩) ms'.length cap, .bool true]) ∧ ms'.length + 1 = ms.length ∧ (top :: ms').Perm ms ∧
      Own Ev.cells 7 w' 40 g cap ms' ∧ Kp (fun k => k = g) w w' := by
  have hgl := hown.lt
  have hcap := hown.le ev_len
  simp only [Ev.val]
  go_enter Try.func24, Try.ntmps24
  go_wp2_with fail
  have hkA : Kp No w (w.alloc (.cells top.cells.toArray 40)) := (Kp.refl No w).alloc _
  have htop : (w.alloc (.cells top.cells.toArray 40)).heap[w.heap.size]? = some (.cells top.cells.toArray 40 (0, 0)) := heap_alloc_new _ _
  have ho1 := hown.kp hkA (no_not _)
  clear hown
  go_loopw [6] (fun t w' => ∃ i : Nat, i ≤ ms.length ∧ t = .int .i64 i ∧ Own Ev.cells 7 w' 40 g cap ms ∧ w'.heap[w.heap.size]? = some (.cells top.cells.toArray 40 (0, 0)) ∧ Kp No w w') (fun t _ => ms.length - (intOf t).toNat)
  case atStart => exact ⟨0, by omega, rfl, ho1, htop, hkA⟩
  case round =>
    clear ho1 htop hkA
    obtain ⟨i, hi, rfl, ho, htop, hk⟩ := hrel
    obtain ⟨t0, t1, t2, t3, t4, t5, t6⟩ := ev_at (at_row htop)
    simp only [Nat.zero_add] at t0 t1 t2 t3 t4 t5 t6
    by_cases hlt : i < ms.length
    · obtain ⟨p0, p1, p2, p3, p4, p5, p6⟩ := ev_at (ho.at ev_len hlt)
      have hkl : keyLess ms[i] top = false := hmin ms[i] (List.getElem_mem _)
      go_wp2_with fail
      refine wp_region_text [2, 3, 5, 38] Try.mixed (by kernel_rfl) ?_
      go_wp2_with fail
      refine (keyLess_calls ms[i] top _).mono ?_
      rintro r w1 ⟨rfl, hk1⟩
      go_wp2_with fail
      refine ⟨by kernel_rfl, ?_⟩
      have ho1 := (show Own Ev.cells 7 (World.drew _) 40 g cap ms from ho).kp hk1 (no_not _)
      have htop1 := hk1.row htop (no_not _)
      have hk01 := hk.drew.then hk1
      clear ho htop hk p0 p1 p2 p3 p4 p5 p6 t0 t1 t2 t3 t4 t5 t6
      go_wp2_with fail
      go_roundw
      case rel => exact ⟨i + 1, by omega, by go_num, ho1, htop1, hk01⟩
      case measure => simp [intOf]; omega
    · clear t0 t1 t2 t3 t4 t5 t6
      go_wp2_with fail
      go_loopw [7] (fun t w' => ∃ j : Nat, j ≤ ms.length ∧ t = .int .i64 j ∧ (∀ q (h : q < ms.length), q < j → ms[q] ≠ top) ∧ Own Ev.cells 7 w' 40 g cap ms ∧ w'.heap[w.heap.size]? = some (.cells top.cells.toArray 40 (0, 0)) ∧ Kp No w w') (fun t _ => ms.length - (intOf t).toNat)
      case atStart => exact ⟨0, by omega, rfl, fun q _ h => by omega, ho, htop, hk⟩
      case round =>
        clear ho htop hk
        obtain ⟨j, hj, rfl, hno, ho, htop, hk⟩ := hrel
        obtain ⟨t0, t1, t2, t3, t4, t5, t6⟩ := ev_at (at_row htop)
        simp only [Nat.zero_add] at t0 t1 t2 t3 t4 t5 t6
        have HNO : Hid (∀ q (h : q < ms.length), q < j → ms[q] ≠ top) := hno
        clear hno
        by_cases hlt2 : j < ms.length
        · obtain ⟨p0, p1, p2, p3, p4, p5, p6⟩ := ev_at (ho.at ev_len hlt2)
          go_wp2_with fail
          refine wp_region_text [2, 3, 5, 38] Try.mixed (by kernel_rfl) ?_
          go_wp2_with fail
          refine (equalEv_calls ms[j] top _).mono ?_
          rintro r w1 ⟨rfl, hk1⟩
          go_wp2_with fail
          refine ⟨by kernel_rfl, ?_⟩
          have ho1 := (show Own Ev.cells 7 (World.drew _) 40 g cap ms from ho).kp hk1 (no_not _)
          have htop1 := hk1.row htop (no_not _)
          have hk01 := hk.drew.then hk1
          clear ho htop hk p0 p1 p2 p3 p4 p5 p6 t0 t1 t2 t3 t4 t5 t6
          cases hb : eqEv ms[j] top
          · go_wp2_with fail
            go_roundw
            case rel =>
              refine ⟨j + 1, by omega, by go_num, ?_, ho1, htop1, hk01⟩
              intro q hq hqj he
              by_cases e : q = j
              · subst e
                rw [(eqEv_iff _ _).2 he] at hb
                exact absurd hb (by decide)
              · exact HNO.out q hq (by omega) he
            case measure => simp [intOf]; omega
          · have heq := (eqEv_iff _ _).1 hb
            have HEQ : Hid (ms[j] = top) := heq
            clear heq hb
            have hjc : (j : Int) + 1 ≤ (ms.length : Int) := by omega
            by_cases hcc : cap = j + 1
            · subst hcc
              go_wp2_with fail
              refine wp_region_text [2, 3, 5, 38] Try.mixed (by kernel_rfl) ?_
              go_wp2_with (refine wpList_copy_shift rfl _ _ 37 37 rfl ev_len ev_one 40 Try.underlying37 Try.size40 g j (j + 1) ms hlt2 (by exact ho1) _ _ _ rfl rfl rfl _ _ _ rfl (by omega) (by intro h; exfalso; omega) ?_; intro w2 ho2 hk2)
              refine ⟨by kernel_rfl, ?_⟩
              have ho3 : Own Ev.cells 7 w2 40 g (j + 1) (ms.eraseIdx j) := by
                have := Own.take ev_len ho2 (n := (ms.eraseIdx j).length) (by simp)
                rwa [List.take_left] at this
              have hel : (ms.eraseIdx j).length = ms.length - 1 := by rw [List.length_eraseIdx, if_pos hlt2]
              have hk02 := (hk01.no (fun k => k = g)).drew.trans hk2 (fun _ _ e => e)
              have HEL : Hid ((ms.eraseIdx j).length = ms.length - 1) := hel
              have hlI : ((ms.length : Int) - 1).toNat = ms.length - 1 := by omega
              have hlI2 : (0 : Int) ≤ (ms.length : Int) - 1 := by omega
              clear hel ho1 ho2 hk2
              go_wp2_with fail
              go_ret2
              refine ⟨ms.eraseIdx j, ?_, ?_, ?_, ho3, hk02⟩
              · rw [HEL.out]; rfl
              · have := HEL.out; omega
              · have := erase_perm ms j hlt2
                rw [HEQ.out] at this
                exact this
            · go_wp2_with fail
              refine wp_region_text [2, 3, 5, 38] Try.mixed (by kernel_rfl) ?_
              go_wp2_with (refine wpList_copy_shift rfl _ _ 37 37 rfl ev_len ev_one 40 Try.underlying37 Try.size40 g j cap ms hlt2 (by exact ho1) _ _ _ rfl rfl rfl _ _ _ rfl rfl (by intro h; rfl) ?_; intro w2 ho2 hk2)
              refine ⟨by kernel_rfl, ?_⟩
              have ho3 : Own Ev.cells 7 w2 40 g cap (ms.eraseIdx j) := by
                have := Own.take ev_len ho2 (n := (ms.eraseIdx j).length) (by simp)
                rwa [List.take_left] at this
              have hel : (ms.eraseIdx j).length = ms.length - 1 := by rw [List.length_eraseIdx, if_pos hlt2]
              have hk02 := (hk01.no (fun k => k = g)).drew.trans hk2 (fun _ _ e => e)
              have HEL : Hid ((ms.eraseIdx j).length = ms.length - 1) := hel
              have hlI : ((ms.length : Int) - 1).toNat = ms.length - 1 := by omega
              have hlI2 : (0 : Int) ≤ (ms.length : Int) - 1 := by omega
              clear hel ho1 ho2 hk2
              go_wp2_with fail
              go_ret2
              refine ⟨ms.eraseIdx j, ?_, ?_, ?_, ho3, hk02⟩
              · rw [HEL.out]; rfl
              · have := HEL.out; omega
              · have := erase_perm ms j hlt2
                rw [HEQ.out] at this
                exact this
        · exfalso
          obtain ⟨q, hq, he⟩ := List.getElem_of_mem hmem
          exact HNO.out q hq (by omega) he

/-! ### Slices of bools -/
def bcell (b : Bool) : List Value := [.bool b]
theorem b_len (b : Bool) : (bcell b).length = 1 := rfl
theorem b_one (b : Bool) : ∀ u ∈ bcell b, u.oneCell' = true := by
  intro u hu
  simp only [bcell, List.mem_singleton] at hu
  subst hu; rfl
theorem Try.size4 : (Try.prog.info? 4).map (·.size) = some 1 := by kernel_rfl
theorem Try.info4 : (Try.prog.info? 4).map (fun i => (i.zero, i.size, i.bytes)) = some (some (.bool false), 1, 1) := by kernel_rfl

set_option maxHeartbeats 1000000 in
theorem cloneBools_calls (v : Value) (b : Nat) (ps : List Bool) (w : World) (hs : Sl bcell 1 w b v ps) (hn : ps.length ≤ 50000) :
    Calls Try.prog 23 #[v] w fun r w' => ∃ v' b', r = .returned v' ∧ Sl bcell 1 w' b' v' ps ∧ w.heap.size ≤ b' ∧ Kp No w w' := by
  have hs0 := hs
  obtain ⟨a, c, rfl, hat⟩ := hs
  have hnil := run_eql_nil (P := Try.prog) 57 4 Try.underlying57
  cases a with
  | none =>
    have h0 : ps = [] := by
      rcases Nat.eq_zero_or_pos ps.length with h | h
      · exact List.eq_nil_of_length_eq_zero h
      · obtain ⟨_, h, _⟩ := hat 0 h; cases h
    subst h0
    go_enter Try.func23, Try.ntmps23
    go_wp2
    go_ret
    exact ⟨_, w.heap.size, rfl, ⟨none, 0, rfl, fun i hi => by simp at hi⟩, Nat.le_refl _, Kp.refl _ _⟩
  | some ad =>
    clear hat
    go_enter Try.func23, Try.ntmps23
    go_wp2_with (first
      | (at_make; refine wpList_make_row rfl _ _ 57 rfl b_len 4 false (.bool false) 1 Try.underlying57 Try.info4 rfl ps.length _ rfl rfl rfl (by omega) (by omega) ?_; intro w1 ho1 hk1)
      | (refine wpList_copy_all rfl _ _ 57 57 rfl b_len b_one 4 Try.underlying57 Try.size4 _ _ _ _ rfl (by exact ho1) (by simp) b _ ps rfl (by exact hs0.kp hk1 (no_not _)) rfl ?_; intro w2 ho2 hk2))
    go_ret
    exact ⟨_, w.heap.size, rfl, ho2.sl b_len, Nat.le_refl _, hk1.trans hk2 (fun i hi e => by omega)⟩

set_option maxHeartbeats 1000000 in
theorem bytesScript_calls (a : Option Addr) (n c : Nat) (a2 : Option Addr) (m c2 : Nat) (w : World) (hn : n ≤ maxLen) (hm : m ≤ maxLen) :
    Calls Try.prog 22 #[.slice a n c, .slice a2 m c2] w fun r w' => ∃ rb, r = .returned (.bool rb) ∧ Kp No w w' := by
  unfold maxLen at hn hm
  by_cases h : n ≤ 1048576
  · by_cases h2 : m ≤ 1048576
    · by_cases h3 : n + m ≤ 1048576
      · go_enter Try.func22, Try.ntmps22
        go_wp2
        go_ret
        exact ⟨_, rfl, Kp.refl No w⟩
      · have h3' : (1048576 : Int) < (n : Int) + (m : Int) := by omega
        go_enter Try.func22, Try.ntmps22
        go_wp2
        go_ret
        exact ⟨_, rfl, Kp.refl No w⟩
    · have h2' : (1048576 : Int) < (m : Int) := by omega
      go_enter Try.func22, Try.ntmps22
      go_wp2
      go_ret
      exact ⟨_, rfl, Kp.refl No w⟩
  · have h' : (1048576 : Int) < (n : Int) := by omega
    go_enter Try.func22, Try.ntmps22
    go_wp2
    go_ret
    exact ⟨_, rfl, Kp.refl No w⟩
end Go.Proofs.Qxb6003632a
