/-
  The capacities' quotients in float64: twice, half, whole. No Go in sight.
-/
import Derived.Test.Qxb6003632aFloat
namespace Go.Proofs.Qxb6003632a

/-- A whole number as a float64. -/
def fl (n : Nat) : Nat := F64.nearest false n 0
def two : Nat := 4611686018427387904

theorem fl_zero : fl 0 = 0 := by decide
theorem two_wd : two = Wd 4503599627370496 (-51) := by decide
theorem two_nrm : Nrm 4503599627370496 (-51) := ⟨by omega, by omega, by omega, by omega⟩

theorem sig_exact {m t : Nat} {e : Int} (h : Nrm m e) : sig (m * 2 ^ t) = m := by
  have hl : (m * 2 ^ t).log2 = 52 + t := by rw [log_mul (by have := h.lo; omega), log_nrm h]
  unfold sig
  rw [hl]
  by_cases ht : t = 0
  · subst ht
    simp
  · rw [if_neg (by omega)]
    unfold Ieee.Toward.cut
    have e1 : min (52 + t - 52) ((m * 2 ^ t).log2 + 2) = t := by rw [hl]; omega
    simp only [e1, Nat.shiftLeft_eq, Nat.one_mul]
    have e2 : m * 2 ^ t / 2 ^ t = m := Nat.mul_div_cancel _ (Nat.two_pow_pos t)
    have e3 : m * 2 ^ t % 2 ^ t = 0 := Nat.mul_mod_left _ _
    rw [e2, e3]
    have hp := Nat.two_pow_pos t
    have e4 : decide (2 ^ t < 2 * 0) = false := decide_eq_false (by omega)
    have e5 : ((2 : Nat) ^ t == 2 * 0) = false := beq_eq_false_iff_ne.2 (by omega)
    rw [e4, e5]
    simp

theorem nearest_exact {m t : Nat} {e p : Int} (h : Nrm m e) (hp : p = e - t) : F64.nearest false (m * 2 ^ t) p = Wd m e := by
  have h0 : m * 2 ^ t ≠ 0 := by
    have := Nat.mul_pos (show 0 < m by have := h.lo; omega) (Nat.two_pow_pos t)
    omega
  have hl : (m * 2 ^ t).log2 = 52 + t := by rw [log_mul (by have := h.lo; omega), log_nrm h]
  rw [nearest_eq h0 (by rw [hl]; have := h.elo; omega), sig_exact h, hl]
  unfold Wd
  obtain ⟨h1, h2, h3, h4⟩ := h
  have : (p + ((52 + t : Nat) : Int) - 52 + 1074).toNat = (e + 1074).toNat := by omega
  rw [this]
  omega

theorem mul_two {m : Nat} {e : Int} (h : Nrm m e) (k : Nrm m (e + 1)) : F64.mul two (Wd m e) = some (Wd m (e + 1)) := by
  unfold Ieee.Format.mul
  rw [two_wd, read_wd h, read_wd two_nrm]
  simp only [Ieee.Datum.product, Option.map_some, Bool.xor_self]
  unfold Ieee.Format.write
  rw [Nat.mul_comm, show (4503599627370496 : Nat) = 2 ^ 52 by decide]
  show some (F64.nearest false (m * 2 ^ 52) (-51 + e)) = _
  rw [nearest_exact k (by omega)]

theorem div_two {m : Nat} {e : Int} (h : Nrm m e) (k : Nrm m (e - 1)) : F64.div (Wd m e) two = some (Wd m (e - 1)) := by
  rw [two_wd, div_wd h two_nrm]
  have hq : quo m 4503599627370496 = m * 2 ^ 3 := by
    unfold quo
    have e1 : m * 2 ^ 54 = m * 4 * 4503599627370496 := by omega
    rw [e1, Nat.mul_div_cancel _ (by omega), Nat.mul_mod_left]
    simp
    omega
  rw [hq, nearest_exact k (by omega)]

theorem order_self {m : Nat} {e : Int} (h : Nrm m e) : F64.order (Wd m e) (Wd m e) = some .eq := by
  unfold Ieee.Format.order
  rw [read_wd h]
  simp [Ieee.Datum.order]

theorem order_zero {m : Nat} {e : Int} (h : Nrm m e) : F64.order (Wd m e) 0 = some .gt := by
  unfold Ieee.Format.order
  rw [read_wd h, read_zero]
  simp only [Ieee.Datum.order, Ieee.signed, Bool.false_eq_true, if_false, Option.some.injEq, Nat.shiftLeft_eq, Nat.zero_mul]
  rw [Int.compare_eq_gt]
  have := Nat.mul_pos (show 0 < m by have := h.lo; omega) (Nat.two_pow_pos (e - min e (-1074)).toNat)
  omega

theorem fl_wd {n : Nat} (h0 : n ≠ 0) (h1 : n < 9007199254740992) : ∃ m e, fl n = Wd m e ∧ Nrm m e ∧ -52 ≤ e ∧ e ≤ 0 := by
  obtain ⟨h, k, l⟩ := whole_wd h0 h1
  exact ⟨_, _, h, k, by omega, by omega⟩

theorem fl_twice {n : Nat} (h0 : n ≠ 0) (h1 : 2 * n < 9007199254740992) : ∃ m e, fl n = Wd m e ∧ fl (2 * n) = Wd m (e + 1) ∧ Nrm m e ∧ -52 ≤ e ∧ e ≤ 0 := by
  obtain ⟨h, k, l⟩ := whole_wd h0 (by omega)
  obtain ⟨h', k', l'⟩ := whole_wd (n := 2 * n) (by omega) h1
  have hl : (2 * n).log2 = n.log2 + 1 := by
    have := log_mul (n := n) (t := 1) h0
    rw [Nat.pow_one, Nat.mul_comm] at this
    exact this
  refine ⟨_, _, h, ?_, k, by omega, by omega⟩
  rw [hl] at h' l'
  have e1 : 2 * n * 2 ^ (52 - (n.log2 + 1)) = n * 2 ^ (52 - n.log2) := by
    rw [Nat.mul_comm 2 n, Nat.mul_assoc, ← Nat.pow_succ']
    congr 2
    omega
  rw [e1] at h'
  unfold fl
  rw [h']
  congr 1
  omega

/-- Twice the dividend, twice the divisor. -/
theorem cap_pos {C S : Nat} (hC : C ≠ 0) (hS : S ≠ 0) (hC1 : 2 * C < 9007199254740992) (hS1 : 2 * S < 9007199254740992) :
    ∃ x d h, F64.div (fl C) (fl S) = some x ∧ F64.div (fl (2 * C)) (fl S) = some d ∧ F64.div (fl C) (fl (2 * S)) = some h ∧ F64.mul two x = some d ∧ F64.div x two = some h ∧
      F64.order d d = some .eq ∧ F64.order h h = some .eq ∧ F64.order x 0 = some .gt := by
  obtain ⟨m, e, c1, c2, c3, c4, c5⟩ := fl_twice hC hC1
  obtain ⟨n, j, s1, s2, s3, s4, s5⟩ := fl_twice hS hS1
  obtain ⟨mx, ex, x1, x2, x3, x4, x5, x6⟩ := div_scale c3 s3 (by omega) (by omega)
  have y1 : Nrm mx (ex + 1) := ⟨x1.lo, x1.hi, by omega, by omega⟩
  have y2 : Nrm mx (ex - 1) := ⟨x1.lo, x1.hi, by omega, by omega⟩
  rw [c1, c2, s1, s2]
  exact ⟨_, _, _, x4, x5, x6, mul_two x1 y1, div_two x1 y2, order_self y1, order_self y2, order_zero x1⟩

theorem div_zero_left {n : Nat} {j : Int} (k : Nrm n j) : F64.div 0 (Wd n j) = some 0 := by
  unfold Ieee.Format.div
  rw [read_zero, read_wd k]
  have hn : n ≠ 0 := by have := k.lo; omega
  simp only [Ieee.Datum.quotient, if_neg hn, Option.map_some, Bool.xor_self, Nat.zero_shiftLeft, Nat.zero_div, Nat.zero_mod]
  rfl

theorem cap_none {S : Nat} (hS : S ≠ 0) (hS1 : S < 9007199254740992) : F64.div (fl 0) (fl S) = some 0 := by
  obtain ⟨n, j, s1, s2, _, _⟩ := fl_wd hS hS1
  rw [fl_zero, s1]
  exact div_zero_left s2

theorem mul_two_zero : F64.mul two 0 = some 0 := by decide
theorem div_zero_two : F64.div 0 two = some 0 := by rw [two_wd]; exact div_zero_left two_nrm
theorem order_zero_zero : F64.order 0 0 = some .eq := by decide

/-- k times the divisor. -/
theorem cap_whole {k S : Nat} (hk : k ≠ 0) (hS : S ≠ 0) (h1 : k * S < 9007199254740992) : F64.div (fl (k * S)) (fl S) = some (fl k) := by
  have hkS : k * S ≠ 0 := Nat.mul_ne_zero hk hS
  have hS1 : S < 9007199254740992 := by
    have : 1 * S ≤ k * S := Nat.mul_le_mul_right _ (by omega)
    omega
  have hk1 : k < 9007199254740992 := by
    have : k * 1 ≤ k * S := Nat.mul_le_mul_left _ (by omega)
    omega
  obtain ⟨a1, a2, a3⟩ := whole_wd hkS h1
  obtain ⟨b1, b2, b3⟩ := whole_wd hS hS1
  obtain ⟨c1, c2, c3⟩ := whole_wd hk hk1
  have hL : k.log2 + S.log2 ≤ (k * S).log2 ∧ (k * S).log2 ≤ k.log2 + S.log2 + 1 := by
    obtain ⟨k1, k2⟩ := log_spec hk
    obtain ⟨s1, s2⟩ := log_spec hS
    constructor
    · rw [Nat.le_log2 hkS, Nat.pow_add]
      exact Nat.mul_le_mul k1 s1
    · have : (k * S).log2 < k.log2 + S.log2 + 2 := by
        rw [Nat.log2_lt hkS]
        calc k * S < 2 ^ (k.log2 + 1) * 2 ^ (S.log2 + 1) := Nat.mul_lt_mul'' k2 s2
          _ = 2 ^ (k.log2 + S.log2 + 2) := by rw [← Nat.pow_add]; congr 1; omega
      omega
  unfold fl
  rw [a1, b1, c1, div_wd a2 b2]
  congr 1
  obtain ⟨t, ht⟩ : ∃ t, t = 55 + (52 - (k * S).log2) - (52 - S.log2) - (52 - k.log2) := ⟨_, rfl⟩
  have hq : quo (k * S * 2 ^ (52 - (k * S).log2)) (S * 2 ^ (52 - S.log2)) = k * 2 ^ (52 - k.log2) * 2 ^ t := by
    unfold quo
    have e1 : k * S * 2 ^ (52 - (k * S).log2) * 2 ^ 54 = k * 2 ^ (54 + (52 - (k * S).log2) - (52 - S.log2)) * (S * 2 ^ (52 - S.log2)) := by
      rw [Nat.mul_assoc (k * S), ← Nat.pow_add, show 52 - (k * S).log2 + 54 = (54 + (52 - (k * S).log2) - (52 - S.log2)) + (52 - S.log2) by omega, Nat.pow_add]
      rw [Nat.mul_assoc, Nat.mul_assoc]
      congr 1
      rw [← Nat.mul_assoc, ← Nat.mul_assoc, Nat.mul_comm S]
    have hpos : 0 < S * 2 ^ (52 - S.log2) := Nat.mul_pos (by omega) (Nat.two_pow_pos _)
    rw [e1, Nat.mul_div_cancel _ hpos, Nat.mul_mod_left]
    simp only [bne_self_eq_false, Bool.toNat_false, Nat.add_zero]
    rw [Nat.mul_assoc k, ← Nat.pow_add, Nat.mul_left_comm, ← Nat.pow_succ']
    congr 2
    omega
  rw [hq]
  exact nearest_exact c2 (by omega)

theorem order_fl {k : Nat} (h1 : k < 9007199254740992) : F64.order (fl k) (fl k) = some .eq := by
  by_cases hk : k = 0
  · subst hk; decide
  · obtain ⟨m, e, h, n, _, _⟩ := fl_wd hk h1
    rw [h]
    exact order_self n

def inf : Nat := 9218868437227405312
theorem div_zero_right {C : Nat} (hC : C ≠ 0) (h1 : C < 9007199254740992) : F64.div (fl C) 0 = some inf := by
  obtain ⟨m, e, h, k, _, _⟩ := fl_wd hC h1
  rw [h]
  unfold Ieee.Format.div
  rw [read_zero, read_wd k]
  have hm : m ≠ 0 := by have := k.lo; omega
  simp only [Ieee.Datum.quotient, if_true, if_neg hm, Option.map_some, Bool.xor_self]
  rfl
theorem div_zero_zero : F64.div 0 0 = none := by decide
theorem order_inf : F64.order inf 9218868437227405311 = some .gt := by decide
end Go.Proofs.Qxb6003632a
