/-
  Division of whole numbers in float64: what the law of the capacities leans on. No Go in sight.
-/
import GoSem.Core.Float
namespace Go.Proofs.Qxb6003632a

def F64 : Ieee.Format := Ieee.double

theorem f_bits : F64.fractionBits = 52 := rfl
theorem f_least : F64.leastPlace = -1074 := by decide
theorem f_binade : F64.binade = 4503599627370496 := by decide
theorem f_inf : F64.infRung = 9218868437227405312 := by decide
theorem f_sign : F64.signWeight = 9223372036854775808 := by decide

/-- The word of 'm * 2 ^ e', m of 53 digits. -/
def Wd (m : Nat) (e : Int) : Nat := (e + 1074).toNat * 4503599627370496 + m

structure Nrm (m : Nat) (e : Int) : Prop where
  lo : 4503599627370496 ≤ m
  hi : m < 9007199254740992
  elo : -1074 ≤ e
  ehi : e ≤ 971

theorem read_wd {m : Nat} {e : Int} (h : Nrm m e) : F64.read (Wd m e) = .number false m e := by
  obtain ⟨h1, h2, h3, h4⟩ := h
  unfold Ieee.Format.read Wd
  rw [f_sign, f_binade, f_inf, f_least]
  have hr : (e + 1074).toNat * 4503599627370496 + m < 9223372036854775808 := by omega
  have e1 : ((e + 1074).toNat * 4503599627370496 + m) % 9223372036854775808 = (e + 1074).toNat * 4503599627370496 + m := Nat.mod_eq_of_lt hr
  have e2 : ((e + 1074).toNat * 4503599627370496 + m) / 9223372036854775808 % 2 = 0 := by rw [Nat.div_eq_of_lt hr]
  simp only [e1, e2]
  rw [if_neg (by omega), if_pos (by omega)]
  have e3 : 4503599627370496 + ((e + 1074).toNat * 4503599627370496 + m) % 4503599627370496 = m := by omega
  have e4 : (-1074 : Int) + (((e + 1074).toNat * 4503599627370496 + m) / 4503599627370496 - 1 : Nat) = e := by omega
  rw [e3, e4]
  rfl

theorem read_zero : F64.read 0 = .number false 0 (-1074) := by decide

/-- The significand, rounded. -/
def sig (mag : Nat) : Nat :=
  if mag.log2 ≤ 52 then mag * 2 ^ (52 - mag.log2) else Ieee.Toward.even.cut false mag (mag.log2 - 52)

theorem cut_zero (n : Nat) : Ieee.Toward.even.cut false n 0 = n := by
  unfold Ieee.Toward.cut
  simp [Nat.mod_one]

theorem nearest_eq {mag : Nat} {place : Int} (h0 : mag ≠ 0) (h1 : -1074 ≤ place + mag.log2 - 52) :
    F64.nearest false mag place = min ((place + mag.log2 - 52 + 1074).toNat * 4503599627370496 + sig mag) 9218868437227405312 := by
  unfold Ieee.Format.nearest
  rw [if_neg h0, f_bits, f_least, f_binade, f_inf]
  have e1 : max (place + (mag.log2 : Int) - ((52 : Nat) : Int)) (-1074) = place + mag.log2 - 52 := by omega
  simp only [e1]
  unfold Ieee.Format.word
  rw [if_neg (by simp)]
  have e2 : (place + (mag.log2 : Int) - 52 - -1074).toNat = (place + mag.log2 - 52 + 1074).toNat := by congr 1
  rw [e2]
  congr 2
  unfold sig
  by_cases hL : mag.log2 ≤ 52
  · rw [if_pos hL]
    have e3 : (place - (place + (mag.log2 : Int) - 52)).toNat = 52 - mag.log2 := by omega
    have e4 : (place + (mag.log2 : Int) - 52 - place).toNat = 0 := by omega
    rw [e3, e4, cut_zero, Nat.shiftLeft_eq]
  · rw [if_neg hL]
    have e3 : (place - (place + (mag.log2 : Int) - 52)).toNat = 0 := by omega
    have e4 : (place + (mag.log2 : Int) - 52 - place).toNat = mag.log2 - 52 := by omega
    rw [e3, e4, Nat.shiftLeft_eq, Nat.pow_zero, Nat.mul_one]

theorem log_spec {n : Nat} (h : n ≠ 0) : 2 ^ n.log2 ≤ n ∧ n < 2 ^ (n.log2 + 1) := ⟨Nat.log2_self_le h, Nat.lt_log2_self⟩
theorem log_of {n L : Nat} (h1 : 2 ^ L ≤ n) (h2 : n < 2 ^ (L + 1)) : n.log2 = L := by
  have h0 : n ≠ 0 := by
    have := Nat.two_pow_pos L
    omega
  exact (Nat.log2_eq_iff h0).2 ⟨h1, h2⟩
theorem log_mul {n t : Nat} (h : n ≠ 0) : (n * 2 ^ t).log2 = n.log2 + t := by
  obtain ⟨h1, h2⟩ := log_spec h
  refine log_of ?_ ?_
  · rw [Nat.pow_add]; exact Nat.mul_le_mul_right _ h1
  · rw [show n.log2 + t + 1 = (n.log2 + 1) + t by omega, Nat.pow_add]; exact (Nat.mul_lt_mul_right (Nat.two_pow_pos t)).2 h2

theorem sig_bound {mag : Nat} (h0 : mag ≠ 0) : 4503599627370496 ≤ sig mag ∧ sig mag ≤ 9007199254740992 := by
  obtain ⟨h1, h2⟩ := log_spec h0
  unfold sig
  split
  · rename_i hL
    have e1 : 2 ^ mag.log2 * 2 ^ (52 - mag.log2) = 4503599627370496 := by rw [← Nat.pow_add, show mag.log2 + (52 - mag.log2) = 52 by omega]
    have e2 : 2 ^ (mag.log2 + 1) * 2 ^ (52 - mag.log2) = 9007199254740992 := by rw [← Nat.pow_add, show mag.log2 + 1 + (52 - mag.log2) = 53 by omega]
    constructor
    · rw [← e1]; exact Nat.mul_le_mul_right _ h1
    · rw [← e2]; exact Nat.mul_le_mul_right _ (by omega)
  · rename_i hL
    unfold Ieee.Toward.cut
    have e0 : min (mag.log2 - 52) (mag.log2 + 2) = mag.log2 - 52 := by omega
    simp only [e0, Nat.shiftLeft_eq, Nat.one_mul]
    have hp := Nat.two_pow_pos (mag.log2 - 52)
    have e1 : 4503599627370496 * 2 ^ (mag.log2 - 52) = 2 ^ mag.log2 := by
      rw [show (4503599627370496 : Nat) = 2 ^ 52 by decide, ← Nat.pow_add, show 52 + (mag.log2 - 52) = mag.log2 by omega]
    have e2 : 9007199254740992 * 2 ^ (mag.log2 - 52) = 2 ^ (mag.log2 + 1) := by
      rw [show (9007199254740992 : Nat) = 2 ^ 53 by decide, ← Nat.pow_add, show 53 + (mag.log2 - 52) = mag.log2 + 1 by omega]
    have l1 : 4503599627370496 ≤ mag / 2 ^ (mag.log2 - 52) := (Nat.le_div_iff_mul_le hp).2 (by omega)
    have l2 : mag / 2 ^ (mag.log2 - 52) < 9007199254740992 := (Nat.div_lt_iff_lt_mul hp).2 (by omega)
    generalize mag / 2 ^ (mag.log2 - 52) = q at l1 l2 ⊢
    have l3 : ∀ b : Bool, b.toNat ≤ 1 := fun b => by cases b <;> simp
    have l4 := l3 (decide (2 ^ (mag.log2 - 52) < 2 * (mag % 2 ^ (mag.log2 - 52))) || (2 ^ (mag.log2 - 52) == 2 * (mag % 2 ^ (mag.log2 - 52)) && q % 2 == 1))
    omega

/-- What is written in the middle range is a word of 53 digits. -/
theorem nearest_wd {mag : Nat} {place : Int} (h0 : mag ≠ 0) (h1 : -1000 ≤ place + mag.log2 - 52) (h2 : place + mag.log2 - 52 ≤ 900) :
    ∃ m e, F64.nearest false mag place = Wd m e ∧ Nrm m e ∧ place + mag.log2 - 52 ≤ e ∧ e ≤ place + mag.log2 - 51 ∧
      F64.nearest false mag (place + 1) = Wd m (e + 1) ∧ F64.nearest false mag (place - 1) = Wd m (e - 1) := by
  obtain ⟨s1, s2⟩ := sig_bound h0
  rw [nearest_eq h0 (by omega), nearest_eq h0 (by omega), nearest_eq h0 (by omega)]
  by_cases hc : sig mag = 9007199254740992
  · refine ⟨4503599627370496, place + mag.log2 - 52 + 1, ?_, ⟨by omega, by omega, by omega, by omega⟩, by omega, by omega, ?_, ?_⟩
    all_goals (unfold Wd; omega)
  · refine ⟨sig mag, place + mag.log2 - 52, ?_, ⟨by omega, by omega, by omega, by omega⟩, by omega, by omega, ?_, ?_⟩
    all_goals (unfold Wd; omega)

/-- A whole number below 2 ^ 53 is written exactly. -/
theorem whole_wd {n : Nat} (h0 : n ≠ 0) (h1 : n < 9007199254740992) : F64.nearest false n 0 = Wd (n * 2 ^ (52 - n.log2)) ((n.log2 : Int) - 52) ∧ Nrm (n * 2 ^ (52 - n.log2)) ((n.log2 : Int) - 52) ∧ n.log2 ≤ 52 := by
  obtain ⟨l1, l2⟩ := log_spec h0
  have hL : n.log2 ≤ 52 := by
    rcases Nat.lt_or_ge 52 n.log2 with h | h
    · exfalso
      have : 2 ^ 53 ≤ 2 ^ n.log2 := Nat.pow_le_pow_right (by omega) (by omega)
      have e : (2 : Nat) ^ 53 = 9007199254740992 := by decide
      omega
    · exact h
  have hs : sig n = n * 2 ^ (52 - n.log2) := by unfold sig; rw [if_pos hL]
  have e1 : 2 ^ n.log2 * 2 ^ (52 - n.log2) = 4503599627370496 := by rw [← Nat.pow_add, show n.log2 + (52 - n.log2) = 52 by omega]
  have e2 : 2 ^ (n.log2 + 1) * 2 ^ (52 - n.log2) = 9007199254740992 := by rw [← Nat.pow_add, show n.log2 + 1 + (52 - n.log2) = 53 by omega]
  have b1 : 4503599627370496 ≤ n * 2 ^ (52 - n.log2) := by rw [← e1]; exact Nat.mul_le_mul_right _ l1
  have b2 : n * 2 ^ (52 - n.log2) < 9007199254740992 := by rw [← e2]; exact (Nat.mul_lt_mul_right (Nat.two_pow_pos _)).2 l2
  refine ⟨?_, ⟨b1, b2, by omega, by omega⟩, hL⟩
  rw [nearest_eq h0 (by omega), hs]
  unfold Wd
  generalize n * 2 ^ (52 - n.log2) = m at b1 b2
  omega

theorem log_nrm {m : Nat} {e : Int} (h : Nrm m e) : m.log2 = 52 := log_of (by have := h.lo; have e : (2 : Nat) ^ 52 = 4503599627370496 := by decide
                                                                              omega) (by have := h.hi; have e : (2 : Nat) ^ (52 + 1) = 9007199254740992 := by decide
                                                                                         omega)

/-- The digits of a quotient. -/
def quo (m n : Nat) : Nat := 2 * (m * 2 ^ 54 / n) + (m * 2 ^ 54 % n != 0).toNat

theorem div_wd {m n : Nat} {e j : Int} (h : Nrm m e) (k : Nrm n j) : F64.div (Wd m e) (Wd n j) = some (F64.nearest false (quo m n) (e - j - 55)) := by
  unfold Ieee.Format.div
  rw [read_wd h, read_wd k]
  have hn : n ≠ 0 := by have := k.lo; omega
  have hm : F64.fractionBits + 2 + n.log2 - m.log2 = 54 := by rw [f_bits, log_nrm h, log_nrm k]
  simp only [Ieee.Datum.quotient, if_neg hn, hm, Nat.shiftLeft_eq, Option.map_some, Bool.xor_self]
  unfold Ieee.Format.write quo
  have e1 : e - j - ((54 : Nat) : Int) - 1 = e - j - 55 := by omega
  rw [e1]

theorem quo_log {m n : Nat} {e j : Int} (h : Nrm m e) (k : Nrm n j) : quo m n ≠ 0 ∧ 54 ≤ (quo m n).log2 ∧ (quo m n).log2 ≤ 55 := by
  obtain ⟨a1, a2, _, _⟩ := h
  obtain ⟨b1, b2, _, _⟩ := k
  have e54 : (2 : Nat) ^ 54 = 18014398509481984 := by decide
  have hn : 0 < n := by omega
  have l1 : 9007199254740992 ≤ m * 2 ^ 54 / n := by
    rw [Nat.le_div_iff_mul_le hn, e54]
    calc 9007199254740992 * n ≤ 9007199254740992 * 9007199254740992 := Nat.mul_le_mul_left _ (by omega)
      _ ≤ 4503599627370496 * 18014398509481984 := by decide
      _ ≤ m * 18014398509481984 := Nat.mul_le_mul_right _ a1
  have l2 : m * 2 ^ 54 / n < 36028797018963968 := by
    rw [Nat.div_lt_iff_lt_mul hn, e54]
    calc m * 18014398509481984 < 9007199254740992 * 18014398509481984 := (Nat.mul_lt_mul_right (by decide)).2 a2
      _ ≤ 36028797018963968 * 4503599627370496 := by decide
      _ ≤ 36028797018963968 * n := Nat.mul_le_mul_left _ b1
  have l3 : (m * 2 ^ 54 % n != 0).toNat ≤ 1 := by cases (m * 2 ^ 54 % n != 0) <;> simp
  have hq : quo m n = 2 * (m * 2 ^ 54 / n) + (m * 2 ^ 54 % n != 0).toNat := rfl
  generalize m * 2 ^ 54 / n = q at l1 l2 hq
  generalize (m * 2 ^ 54 % n != 0).toNat = s at l3 hq
  have h0 : quo m n ≠ 0 := by omega
  refine ⟨h0, ?_, ?_⟩
  · rw [Nat.le_log2 h0]
    omega
  · have : (quo m n).log2 < 56 := by
      rw [Nat.log2_lt h0]
      have e56 : (2 : Nat) ^ 56 = 72057594037927936 := by decide
      omega
    omega

/-- Twice the dividend: twice the quotient; twice the divisor: half of it. -/
theorem div_scale {m n : Nat} {e j : Int} (h : Nrm m e) (k : Nrm n j) (he : -60 ≤ e ∧ e ≤ 60) (hj : -60 ≤ j ∧ j ≤ 60) :
    ∃ mx ex, Nrm mx ex ∧ -900 ≤ ex ∧ ex ≤ 900 ∧ F64.div (Wd m e) (Wd n j) = some (Wd mx ex) ∧ F64.div (Wd m (e + 1)) (Wd n j) = some (Wd mx (ex + 1)) ∧ F64.div (Wd m e) (Wd n (j + 1)) = some (Wd mx (ex - 1)) := by
  obtain ⟨q0, q1, q2⟩ := quo_log h k
  obtain ⟨mx, ex, w1, w2, w3, w4, w5, w6⟩ := nearest_wd (mag := quo m n) (place := e - j - 55) q0 (by omega) (by omega)
  have k1 : Nrm m (e + 1) := ⟨h.lo, h.hi, by omega, by omega⟩
  have k2 : Nrm n (j + 1) := ⟨k.lo, k.hi, by omega, by omega⟩
  refine ⟨mx, ex, w2, ?_, ?_, ?_, ?_, ?_⟩
  · omega
  · omega
  · rw [div_wd h k, w1]
  · rw [div_wd k1 k, show e + 1 - j - 55 = e - j - 55 + 1 by omega, w5]
  · rw [div_wd h k2, show e - (j + 1) - 55 = e - j - 55 - 1 by omega, w6]
end Go.Proofs.Qxb6003632a
