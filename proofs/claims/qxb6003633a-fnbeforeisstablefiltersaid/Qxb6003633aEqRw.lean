/-
  Two rows compared.
-/
import Derived.Test.Qxb6003633aBeforeW
import Derived.Laws.StructEq
import Derived.LaidEqlPtr
namespace Go.Proofs.Qxb6003633a
open Go.RowKit

theorem run_part_int (w : World) (t : TypeId) (k : IntKind) (hu : Try.prog.underlying t = some (.int k)) (cs : Array Value) (off : Nat) (v : Value) (h : cs[off]? = some v) : (part t cs off).run Try.prog w = .ok v w := by
  simp [part, isAgg, run_underlying hu, h]

theorem run_equal_rw (a b : Rw) (w : World) : (Op.equalIn 10000 37 a.val b.val).run Try.prog w = .ok (eqRw a b) w := by
  unfold Rw.val
  have hf : Try.prog.fieldsOf 37 = #[{ name := "Month", type := 33, offset := 0, embedded := false, tag := "", pkgPath := "", byteOffset := 0 },
        { name := "Hours", type := 35, offset := 1, embedded := false, tag := "", pkgPath := "", byteOffset := 8 },
        { name := "ContributionRate", type := 35, offset := 2, embedded := false, tag := "", pkgPath := "", byteOffset := 16 },
        { name := "Line", type := 3, offset := 3, embedded := false, tag := "", pkgPath := "", byteOffset := 24 }] := by
    unfold Program.fieldsOf; rw [Try.underlying37]
  rw [run_equalIn_struct w 9999 37 _ _ (by rw [hf]; exact Try.underlying37) (by kernel_rfl), hf]
  have h33 := fun W x y => run_equalIn_int (P := Try.prog) W 9998 33 .i64 .i64 x y Try.underlying33
  have h35 := fun W x y => run_equalIn_int (P := Try.prog) W 9998 35 .i64 .i64 x y Try.underlying35
  have h3 := fun W x y => run_equalIn_int (P := Try.prog) W 9998 3 .i64 .i64 x y Try.underlying3
  have p33 := fun W => run_part_int W 33 .i64 Try.underlying33
  have p35 := fun W => run_part_int W 35 .i64 Try.underlying35
  have p3 := fun W => run_part_int W 3 .i64 Try.underlying3
  simp only [Op.eqFields, Sem.run_bind, ne_eq, Sem.run_ite]
  rw [if_pos (by decide), p33 w _ 0 (.int .i64 a.mon) rfl]
  simp only [Result.andThen_ok]
  rw [p33 w _ 0 (.int .i64 b.mon) rfl]
  simp only [Result.andThen_ok, h33]
  cases e0 : (a.mon == b.mon)
  · simp [eqRw, e0]
  simp only [Bool.not_true, Bool.false_eq_true, if_false]
  rw [if_pos (by decide), p35 w _ 1 (.int .i64 a.hrs) rfl]
  simp only [Result.andThen_ok]
  rw [p35 w _ 1 (.int .i64 b.hrs) rfl]
  simp only [Result.andThen_ok, h35]
  cases e1 : (a.hrs == b.hrs)
  · simp [eqRw, e1]
  simp only [Bool.not_true, Bool.false_eq_true, if_false]
  rw [if_pos (by decide), p35 w _ 2 (.int .i64 a.rate) rfl]
  simp only [Result.andThen_ok]
  rw [p35 w _ 2 (.int .i64 b.rate) rfl]
  simp only [Result.andThen_ok, h35]
  cases e2 : (a.rate == b.rate)
  · simp [eqRw, e2]
  simp only [Bool.not_true, Bool.false_eq_true, if_false]
  rw [if_pos (by decide), p3 w _ 3 (.int .i64 a.line) rfl]
  simp only [Result.andThen_ok]
  rw [p3 w _ 3 (.int .i64 b.line) rfl]
  simp only [Result.andThen_ok, h3]
  cases e3 : (a.line == b.line)
  · simp [eqRw, e3]
  · simp [eqRw, e0, e1, e2, e3]

theorem run_eql_rw (a b : Rw) (w : World) : (binOp .eql 37 a.val b.val).run Try.prog w = .ok (.bool (eqRw a b)) w := by
  unfold Rw.val
  rw [run_eql_struct w 37]
  have := run_equal_rw a b w
  unfold Rw.val at this
  rw [this]
  rfl
theorem run_neq_rw (a b : Rw) (w : World) : (binOp .neq 37 a.val b.val).run Try.prog w = .ok (.bool (!eqRw a b)) w := by
  unfold Rw.val
  rw [run_neq_struct w 37]
  have := run_equal_rw a b w
  unfold Rw.val at this
  rw [this]
  rfl
end Go.Proofs.Qxb6003633a
