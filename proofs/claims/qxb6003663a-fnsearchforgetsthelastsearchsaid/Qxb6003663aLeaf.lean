/-
  The contracts of the small functions on lists of int32.
-/
import Derived.Test.Qxb6003663aBase
namespace Go.Proofs.Qxb6003663a
open Go.RowKit

set_option maxHeartbeats 1000000 in
theorem equal_calls (v1 v2 : Value) (b1 b2 : Nat) (xs : List Int) (w : World) (hs1 : Sl ic 1 w b1 v1 xs) (hs2 : Sl ic 1 w b2 v2 xs) (hn : xs.length ≤ 1000000) :
    Calls Try.prog 23 #[v1, v2] w fun r w' => r = .returned (.bool true) ∧ Kp No w w' := by
  have hs10 := hs1
  have hs20 := hs2
  obtain ⟨a1, c1, rfl, hat1⟩ := hs1
  obtain ⟨a2, c2, rfl, hat2⟩ := hs2
  clear hat1 hat2
  have hle : (((xs.length : Int)) != ((xs.length : Int))) = false := by simp
  go_enter Try.func23, Try.ntmps23
  go_wp2_with fail
  go_loopw [5] (fun t w' => ∃ i : Nat, i ≤ xs.length ∧ t = .int .i64 i ∧ Kp No w w') (fun t _ => xs.length - (intOf t).toNat)
  case atStart => exact ⟨0, by omega, rfl, Kp.refl _ _⟩
  case round =>
    obtain ⟨i, hi, rfl, hk3⟩ := hrel
    by_cases hlt : i < xs.length
    · obtain ⟨o3, rfl, h3⟩ := (hs10.kp hk3 (no_not _)).cell (g := fun x => .int .i32 x) (fun _ => rfl) hlt
      obtain ⟨o4, rfl, h4⟩ := (hs20.kp hk3 (no_not _)).cell (g := fun x => .int .i32 x) (fun _ => rfl) hlt
      have he : (xs[i] != xs[i]) = false := by simp
      clear hs10 hs20
      go_wp2_with fail
      refine wp_region_text [3, 21, 50] Try.mixed (by kernel_rfl) ?_
      go_wp2_with fail
      refine ⟨by kernel_rfl, ?_⟩
      go_wp2_with fail
      go_roundw
      case rel => exact ⟨i + 1, by omega, by go_num, hk3.drew⟩
      case measure => simp [intOf]; omega
    · clear hs10 hs20
      go_wp2_with fail
      go_ret
      exact ⟨rfl, hk3⟩

set_option maxHeartbeats 1000000 in
theorem copyInt32s_calls (v : Value) (b : Nat) (xs : List Int) (w : World) (hs : Sl ic 1 w b v xs) (hn : xs.length ≤ 1000000) :
    Calls Try.prog 37 #[v] w fun r w' => ∃ v' b', r = .returned v' ∧ Sl ic 1 w' b' v' xs ∧ w.heap.size ≤ b' ∧ Kp No w w' := by
  have hs0 := hs
  obtain ⟨a, c, rfl, hat⟩ := hs
  clear hat
  go_enter Try.func37, Try.ntmps37
  go_wp2_with (first
    | (at_make; refine wpList_make_row rfl _ _ 33 rfl ic_len 21 0 _ 4 Try.underlying33 Try.info21 rfl xs.length _ rfl rfl rfl (by omega) (by omega) ?_; intro w1 ho1 hk1)
    | (refine wpList_copy_all rfl _ _ 33 33 rfl ic_len ic_one 21 Try.underlying33 Try.size21 _ _ _ _ rfl (by exact ho1) (by simp) b _ xs rfl (by exact hs0.kp hk1 (no_not _)) rfl ?_; intro w2 ho2 hk2))
  go_ret
  exact ⟨_, w.heap.size, rfl, ho2.sl ic_len, Nat.le_refl _, hk1.trans hk2 (fun i hi e => by omega)⟩

set_option maxHeartbeats 1000000 in
theorem int32s_calls (v : Value) (b : Nat) (xs : List Int) (w : World) (hs : Sl ic 1 w b v xs) (hn : xs.length ≤ 1000000) :
    Calls Try.prog 38 #[v] w fun r w' => ∃ v' b', r = .returned v' ∧ Sl ic 1 w' b' v' xs ∧ w.heap.size ≤ b' ∧ Kp No w w' := by
  have hs0 := hs
  obtain ⟨a, c, rfl, hat⟩ := hs
  clear hat
  go_enter Try.func38, Try.ntmps38
  go_wp2_with (at_make; refine wpList_make_row rfl _ _ 33 rfl ic_len 21 0 _ 4 Try.underlying33 Try.info21 rfl xs.length _ rfl rfl rfl (by omega) (by omega) ?_; intro w1 ho1 hk1)
  go_loopw [4] (fun t w' => ∃ (i : Nat) (zs : List Int), i ≤ xs.length ∧ zs.length = xs.length ∧ (∀ j (h : j < xs.length) (h2 : j < zs.length), j < i → zs[j] = xs[j]) ∧ t = .int .i64 i ∧ Own ic 1 w' 21 w.heap.size xs.length zs ∧ Kp No w w') (fun t _ => xs.length - (intOf t).toNat)
  case atStart => exact ⟨0, _, by omega, by simp, fun j _ _ h => by omega, rfl, ho1, hk1⟩
  case round =>
    clear ho1 hk1
    obtain ⟨i, zs, hi, hl, heq, rfl, ho, hk⟩ := hrel
    have HEQ : Hid (∀ j (h : j < xs.length) (h2 : j < zs.length), j < i → zs[j] = xs[j]) := heq
    have HL : Hid (zs.length = xs.length) := hl
    clear heq hl
    by_cases hlt : i < xs.length
    · obtain ⟨o, rfl, h3⟩ := (hs0.kp hk (no_not _)).cell (g := fun x => .int .i32 x) (fun _ => rfl) hlt
      clear hs0
      go_wp2_with (refine wpList_store_own rfl 21 _ _ rfl ic_len 21 w.heap.size xs.length zs i xs[i] _ rfl (by simp) _ rfl rfl (ic_one _) Try.size21 (by exact ho) (by rw [HL.out]; exact hlt) ?_; intro w3 ho3 hk3)
      go_roundw
      case rel =>
        refine ⟨i + 1, zs.set i xs[i], by omega, by rw [List.length_set]; exact HL.out, ?_, by go_num, ho3, hk.trans hk3 (fun j hj e => by omega)⟩
        intro j h1 h2 hji
        rw [List.getElem_set]
        by_cases e : i = j
        · subst e; simp
        · rw [if_neg e]; exact HEQ.out j h1 (by simpa using h2) (by omega)
      case measure => simp [intOf]; omega
    · have hzs : zs = xs := List.ext_getElem HL.out (fun j h1 h2 => HEQ.out j h2 h1 (by omega))
      rw [hzs] at ho
      clear hzs HEQ HL hs0
      go_wp2_with fail
      go_ret
      exact ⟨_, w.heap.size, rfl, ho.sl ic_len, Nat.le_refl _, hk⟩

set_option maxHeartbeats 1000000 in
theorem vertices_calls (v : Value) (b : Nat) (xs : List Int) (w : World) (hs : Sl ic 1 w b v xs) (hn : xs.length ≤ 1000000) :
    Calls Try.prog 41 #[v] w fun r w' => ∃ v' b', r = .returned v' ∧ Sl ic 1 w' b' v' xs ∧ w.heap.size ≤ b' ∧ Kp No w w' := by
  have hs0 := hs
  obtain ⟨a, c, rfl, hat⟩ := hs
  have hnil := run_eql_nil (P := Try.prog) 33 21 Try.underlying33
  cases a with
  | none =>
    have h0 : xs = [] := by
      rcases Nat.eq_zero_or_pos xs.length with h | h
      · exact List.eq_nil_of_length_eq_zero h
      · obtain ⟨_, h, _⟩ := hat 0 h; cases h
    subst h0
    go_enter Try.func41, Try.ntmps41
    go_wp2_with fail
    go_ret
    exact ⟨_, w.heap.size, rfl, sl_nil, Nat.le_refl _, Kp.refl _ _⟩
  | some ad =>
    clear hat
    go_enter Try.func41, Try.ntmps41
    go_wp2_with (at_make; refine wpList_make_row rfl _ _ 56 rfl ic_len 50 0 _ 4 Try.underlying56 Try.info50 rfl xs.length _ rfl rfl rfl (by omega) (by omega) ?_; intro w1 ho1 hk1)
    go_loopw [4] (fun t w' => ∃ (i : Nat) (zs : List Int), i ≤ xs.length ∧ zs.length = xs.length ∧ (∀ j (h : j < xs.length) (h2 : j < zs.length), j < i → zs[j] = xs[j]) ∧ t = .int .i64 i ∧ Own ic 1 w' 50 w.heap.size xs.length zs ∧ Kp No w w') (fun t _ => xs.length - (intOf t).toNat)
    case atStart => exact ⟨0, _, by omega, by simp, fun j _ _ h => by omega, rfl, ho1, hk1⟩
    case round =>
      clear ho1 hk1
      obtain ⟨i, zs, hi, hl, heq, rfl, ho, hk⟩ := hrel
      have HEQ : Hid (∀ j (h : j < xs.length) (h2 : j < zs.length), j < i → zs[j] = xs[j]) := heq
      have HL : Hid (zs.length = xs.length) := hl
      clear heq hl
      by_cases hlt : i < xs.length
      · obtain ⟨o, ha, h3⟩ := (hs0.kp hk (no_not _)).cell (g := fun x => .int .i32 x) (fun _ => rfl) hlt
        cases ha
        clear hs0
        go_wp2_with (refine wpList_store_own rfl 50 _ _ rfl ic_len 50 w.heap.size xs.length zs i xs[i] _ rfl (by simp) _ rfl rfl (ic_one _) Try.size50 (by exact ho) (by rw [HL.out]; exact hlt) ?_; intro w3 ho3 hk3)
        go_roundw
        case rel =>
          refine ⟨i + 1, zs.set i xs[i], by omega, by rw [List.length_set]; exact HL.out, ?_, by go_num, ho3, hk.trans hk3 (fun j hj e => by omega)⟩
          intro j h1 h2 hji
          rw [List.getElem_set]
          by_cases e : i = j
          · subst e; simp
          · rw [if_neg e]; exact HEQ.out j h1 (by simpa using h2) (by omega)
        case measure => simp [intOf]; omega
      · have hzs : zs = xs := List.ext_getElem HL.out (fun j h1 h2 => HEQ.out j h2 h1 (by omega))
        rw [hzs] at ho
        clear hzs HEQ HL hs0
        go_wp2_with fail
        go_ret
        exact ⟨_, w.heap.size, rfl, ho.sl ic_len, Nat.le_refl _, hk⟩
end Go.Proofs.Qxb6003663a
