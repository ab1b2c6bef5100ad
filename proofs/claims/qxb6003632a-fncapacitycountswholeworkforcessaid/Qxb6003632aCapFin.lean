/-
  The four quotients, and what the law says of them. No Go in sight but for the two float operations at the end.
-/
import Derived.Test.Qxb6003632aCapW
namespace Go.Proofs.Qxb6003632a
open Go.RowKit

theorem quo_some {C S x r : Nat} (h : F64.div (fl C) (fl S) = some r) (q : Quo C S x) : x = r := by
  rcases q with q | ⟨q, _⟩
  · rw [h] at q; exact (Option.some.inj q).symm
  · rw [h] at q; cases q

theorem cap_fin {C S kn x d h ww : Nat} (hS : S ≠ 0) (hC1 : 2 * C < 9007199254740992) (hS1 : 2 * S < 9007199254740992) (hk : kn * S < 9007199254740992) (hkn : kn ≤ 64)
    (qx : Quo C S x) (qd : Quo (2 * C) S d) (qh : Quo C (2 * S) h) (qw : Quo (kn * S) S ww) :
    F64.mul two x = some d ∧ F64.div x two = some h ∧ F64.order d d = some .eq ∧ F64.order h h = some .eq ∧ F64.order ww (fl kn) = some .eq ∧ (F64.order x 0 == some .eq) = decide (C = 0) := by
  have hw : F64.order ww (fl kn) = some .eq := by
    by_cases h0 : kn = 0
    · subst h0
      rw [Nat.zero_mul] at qw
      rw [quo_some (cap_none hS (by omega)) qw]
      decide
    · rw [quo_some (cap_whole h0 hS hk) qw]
      exact order_fl (by omega)
  by_cases hC : C = 0
  · subst hC
    rw [Nat.mul_zero] at qd
    have e1 := quo_some (cap_none hS (by omega)) qx
    have e2 := quo_some (cap_none hS (by omega)) qd
    have e3 := quo_some (cap_none (S := 2 * S) (by omega) hS1) qh
    subst e1 e2 e3
    exact ⟨mul_two_zero, div_zero_two, order_zero_zero, order_zero_zero, hw, by rw [order_zero_zero]; decide⟩
  · obtain ⟨x', d', h', a1, a2, a3, a4, a5, a6, a7, a8⟩ := cap_pos hC hS hC1 hS1
    have e1 := quo_some a1 qx
    have e2 := quo_some a2 qd
    have e3 := quo_some a3 qh
    subst e1 e2 e3
    exact ⟨a4, a5, a6, a7, hw, by rw [a8, decide_eq_false hC]; decide⟩

theorem quo_nan {x : Nat} (q : Quo 0 0 x) : F64.order x x = none := by
  rcases q with q | ⟨_, q⟩
  · rw [fl_zero, div_zero_zero] at q; cases q
  · exact q
theorem quo_inf {C x : Nat} (hC : C ≠ 0) (h1 : C < 9007199254740992) (q : Quo C 0 x) : F64.order x 9218868437227405311 = some .gt := by
  have := div_zero_right hC h1
  rw [← fl_zero] at this
  rw [quo_some this q]
  exact order_inf

theorem run_fmul {P : Program} {t : TypeId} {x y r : Nat} (h : F64.mul x y = some r) (w : World) : (binOp .mul t (.float .f64 x) (.float .f64 y)).run P w = .ok (.float .f64 r) w := by
  show (Op.floatArith .mul .f64 x y).run P w = _
  unfold Op.floatArith
  have h' : FloatKind.f64.format.mul x y = some r := h
  simp [h']
theorem run_fdiv {P : Program} {t : TypeId} {x y r : Nat} (h : F64.div x y = some r) (w : World) : (binOp .quo t (.float .f64 x) (.float .f64 y)).run P w = .ok (.float .f64 r) w := by
  show (Op.floatArith .quo .f64 x y).run P w = _
  unfold Op.floatArith
  have h' : FloatKind.f64.format.div x y = some r := h
  simp [h']

theorem caps_twice (cts : List Ct) : ((cts ++ cts).map Ct.cap).sum = 2 * (cts.map Ct.cap).sum := by
  rw [List.map_append, List.sum_append]; omega
end Go.Proofs.Qxb6003632a
