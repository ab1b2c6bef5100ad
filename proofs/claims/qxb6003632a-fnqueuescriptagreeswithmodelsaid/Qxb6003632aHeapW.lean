import Derived.Test.Qxb6003632aLeaf2
import Derived.Deep.DeepCutAuto
namespace Go.Proofs.Qxb6003632a
open Go.RowKit

theorem heapUpTo_step {es : List Ev} {k : Nat} (h : heapUpTo es k) (hk : k < es.length) (h1 : 1 ≤ k) (hl : keyLess es[k] (es[(k - 1) / 2]'(by omega)) = false) : heapUpTo es (k + 1) := by
  intro i hi h1 hlt
  by_cases e : i = k
  · subst e; exact hl
  · exact h i hi h1 (by omega)

set_option maxHeartbeats 1000000 in
theorem heapOrdered_calls (v : Value) (b : Nat) (es : List Ev) (w : World) (hs : Sl Ev.cells 7 w b v es) (hn : es.length ≤ 100000) :
    Calls Try.prog 12 #[v] w fun e w' => ∃ r, e = .returned (.bool r) ∧ (r = true ↔ Heap es) ∧ Kp No w w' := by
  obtain ⟨a, c, rfl, hs⟩ := hs
  go_enter Try.func12, Try.ntmps12
  go_wp2
  go_loopw [3] (fun i w' => ∃ k : Nat, 1 ≤ k ∧ (k ≤ es.length ∨ k = 1) ∧ i = .int .i64 k ∧ heapUpTo es k ∧ Kp No w w') (fun i _ => es.length - (intOf i).toNat)
  case atStart => exact ⟨1, by omega, by omega, rfl, fun i _ h1 h2 => by omega, Kp.refl _ _⟩
  case round =>
    obtain ⟨k, h1, h2, rfl, hh, hk⟩ := hrel
    by_cases hlt : k < es.length
    · obtain ⟨o, rfl, h3⟩ := hs k hlt
      obtain ⟨o', ho', h4⟩ := hs ((k - 1) / 2) (by omega)
      obtain rfl : o = o' := by simpa using ho'
      have e3 := ev_at ((h3.kp hk (no_not _)))
      have e4 := ev_at ((h4.kp hk (no_not _)))
      obtain ⟨p0, p1, p2, p3, p4, p5, p6⟩ := e3
      obtain ⟨q0, q1, q2, q3, q4, q5, q6⟩ := e4
      clear h3 h4 ho'
      generalize hx : es[k] = x at *
      generalize hy : es[(k - 1) / 2] = y at *
      have Hx : Hid (es[k] = x) := hx
      have Hy : Hid (es[(k - 1) / 2] = y) := hy
      have HS : Hid (∀ (i : Nat) (h : i < es.length), ∃ o_1, some { block := b, off := o } = some ({ block := b, off := o_1 } : Addr) ∧ At w b (o_1 + i * 7) es[i].cells) := hs
      have HH : Hid (heapUpTo es k) := hh
      clear hx hy hs hh
      have ei : (((k : Int) - 1) / 2).toNat = (k - 1) / 2 := by omega
      go_wp2
      refine wp_region_text [2, 3, 5, 38] Try.mixed (by kernel_rfl) ?_
      go_wp2_with fail
      refine (keyLess_calls x y _).mono ?_
      rintro e w1 ⟨rfl, hk1⟩
      go_wp2_with fail
      refine ⟨by kernel_rfl, ?_⟩
      cases hb : keyLess x y
      · go_wp2
        go_roundw
        case rel => exact ⟨k + 1, by omega, by omega, by go_num, heapUpTo_step HH.out hlt h1 (by rw [Hx.out, Hy.out]; exact hb), (hk.drew).then hk1⟩
        case measure => simp [intOf]; omega
      · go_wp2
        go_ret
        refine ⟨false, rfl, ?_, (hk.drew).then hk1⟩
        simp only [Bool.false_eq_true, false_iff]
        intro hH
        have := hH k hlt h1 hlt
        rw [Hx.out, Hy.out, hb] at this
        exact absurd this (by decide)
    · go_wp2
      go_ret
      refine ⟨true, rfl, ?_, hk⟩
      simp only [true_iff]
      intro i hi h1 h2
      exact hh i hi h1 (by omega)

set_option maxHeartbeats 1000000 in
theorem queueOrdered_calls (v : Value) (b : Nat) (es : List Ev) (w : World) (hs : Sl Ev.cells 7 w b v es) (hn : es.length ≤ 100000) :
    Calls Try.prog 25 #[v] w fun e w' => ∃ r, e = .returned (.bool r) ∧ (r = true ↔ Heap es) ∧ Kp No w w' := by
  obtain ⟨a, c, rfl, hs⟩ := hs
  go_enter Try.func25, Try.ntmps25
  go_wp2
  go_loopw [3] (fun i w' => ∃ k : Nat, 1 ≤ k ∧ (k ≤ es.length ∨ k = 1) ∧ i = .int .i64 k ∧ heapUpTo es k ∧ Kp No w w') (fun i _ => es.length - (intOf i).toNat)
  case atStart => exact ⟨1, by omega, by omega, rfl, fun i _ h1 h2 => by omega, Kp.refl _ _⟩
  case round =>
    obtain ⟨k, h1, h2, rfl, hh, hk⟩ := hrel
    by_cases hlt : k < es.length
    · obtain ⟨o, rfl, h3⟩ := hs k hlt
      obtain ⟨o', ho', h4⟩ := hs ((k - 1) / 2) (by omega)
      obtain rfl : o = o' := by simpa using ho'
      have h3 := h3.kp hk (no_not _)
      have h4 := h4.kp hk (no_not _)
      clear ho'
      generalize hx : es[k] = x at *
      generalize hy : es[(k - 1) / 2] = y at *
      have Hx : Hid (es[k] = x) := hx
      have Hy : Hid (es[(k - 1) / 2] = y) := hy
      have HH : Hid (heapUpTo es k) := hh
      clear hx hy hs hh
      have ei : (((k : Int) - 1) / 2).toNat = (k - 1) / 2 := by omega
      have key : ∀ w4, Kp No w w4 → keyLess x y = false → heapUpTo es (k + 1) := fun w4 _ hb => heapUpTo_step HH.out hlt h1 (by rw [Hx.out, Hy.out]; exact hb)
      have kno : keyLess x y = true → ¬ Heap es := fun hb hH => by
        have := hH k hlt h1 hlt
        rw [Hx.out, Hy.out, hb] at this
        exact absurd this (by decide)
      have HK : Hid (∀ w4, Kp No w w4 → keyLess x y = false → heapUpTo es (k + 1)) := key
      have HN : Hid (keyLess x y = true → ¬ Heap es) := kno
      clear key kno
      go_wp2
      go_cut [22] (fun t w' => t = .bool (keyLess x y) ∧ Kp No w w')
      case first =>
        refine wp_region_two [2, 3, 5, 38] 4 10 [0, 1, 2, 3, 5, 6, 7, 8, 9, 10, 4, 11, 12] Try.mixed (by kernel_rfl) ?_ ?_
        · obtain ⟨p0, p1, p2, p3, p4, p5, p6⟩ := ev_at h3
          go_wp2_with fail
          refine (fromEvent_calls x _).mono ?_
          rintro e w1 ⟨rfl, hk1⟩
          obtain ⟨q0, q1, q2, q3, q4, q5, q6⟩ := ev_at (h4.drew.kp hk1 (no_not _))
          go_wp2_with fail
          refine (fromEvent_calls y _).mono ?_
          rintro e w2 ⟨rfl, hk2⟩
          go_wp2_with fail
          refine (keyLess_calls x y _).mono ?_
          rintro e w3 ⟨rfl, hk3⟩
          go_wp2_with fail
          refine ⟨by kernel_rfl, ?_⟩
          go_wp2_with fail
          go_meet
          case rel => exact ⟨rfl, ((hk.drew.then hk1).then hk2).then hk3⟩
        · obtain ⟨p0, p1, p2, p3, p4, p5, p6⟩ := ev_at h3
          obtain ⟨q0, q1, q2, q3, q4, q5, q6⟩ := ev_at h4
          simp only [pick, List.map_cons, List.map_nil, nth]
          go_wp2_with fail
          refine (fromEvent_calls x _).mono ?_
          rintro e w1 ⟨rfl, hk1⟩
          go_wp2_with fail
          refine (fromEvent_calls y _).mono ?_
          rintro e w2 ⟨rfl, hk2⟩
          go_wp2_with fail
          refine (keyLess_calls x y _).mono ?_
          rintro e w3 ⟨rfl, hk3⟩
          go_wp2_with fail
          refine ⟨by kernel_rfl, ?_⟩
          go_wp2_with fail
          go_meet
          case rel => exact ⟨rfl, ((hk.drew.then hk1).then hk2).then hk3⟩
      case rest =>
        obtain ⟨rfl, hk1⟩ := hcut
        cases hb : keyLess x y
        · go_wp2
          go_roundw
          case rel => exact ⟨k + 1, by omega, by omega, by go_num, HK.out _ hk1 hb, hk1⟩
          case measure => simp [intOf]; omega
        · go_wp2
          go_ret
          refine ⟨false, rfl, ?_, hk1⟩
          simp only [Bool.false_eq_true, false_iff]
          exact HN.out hb
    · go_wp2
      go_ret
      refine ⟨true, rfl, ?_, hk⟩
      simp only [true_iff]
      intro i hi h1 h2
      exact hh i hi h1 (by omega)
end Go.Proofs.Qxb6003632a
