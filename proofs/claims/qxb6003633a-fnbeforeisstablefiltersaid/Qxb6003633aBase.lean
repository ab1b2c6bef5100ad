/-
  The rows as plain data.
-/
import Derived.Test.Qxb6003633aProg
import Derived.Test.Qxb6003633aText4
import Derived.Test.Qxb6003633aGen3
namespace Go.Proofs.Qxb6003633a
open Go.RowKit

structure Rw where
  mon : Int
  hrs : Int
  rate : Int
  line : Int

def Rw.cells (e : Rw) : List Value := [.int .i64 e.mon, .int .i64 e.hrs, .int .i64 e.rate, .int .i64 e.line]
def Rw.val (e : Rw) : Value := .agg #[.int .i64 e.mon, .int .i64 e.hrs, .int .i64 e.rate, .int .i64 e.line]
def zeroRw : Rw := ⟨0, 0, 0, 0⟩
theorem rw_len (e : Rw) : e.cells.length = 4 := rfl
theorem rw_val (e : Rw) : e.val.cells.toList = e.cells := rfl
theorem rw_one (e : Rw) : ∀ u ∈ e.cells, u.oneCell' = true := by
  intro u hu
  simp only [Rw.cells, List.mem_cons, List.not_mem_nil, or_false] at hu
  rcases hu with rfl | rfl | rfl | rfl <;> rfl

theorem Try.mixed : Try.prog.follows .mixedOrders = true := by kernel_rfl
theorem Try.size72 : (Try.prog.info? 72).map (·.size) = some 4 := by kernel_rfl
theorem Try.size37 : (Try.prog.info? 37).map (·.size) = some 4 := by kernel_rfl
theorem Try.info72 : (Try.prog.info? 72).map (fun i => (i.zero, i.size, i.bytes)) = some (some zeroRw.val, 4, 32) := by kernel_rfl
theorem Try.info37 : (Try.prog.info? 37).map (fun i => (i.zero, i.size, i.bytes)) = some (some zeroRw.val, 4, 32) := by kernel_rfl

theorem rw_at {w : World} {b o : Nat} {e : Rw} (h : At w b o e.cells) : w.cell? ⟨b, o, none⟩ = some (.int .i64 e.mon) ∧ w.cell? ⟨b, o + 1, none⟩ = some (.int .i64 e.hrs) ∧ w.cell? ⟨b, o + 2, none⟩ = some (.int .i64 e.rate) ∧
    w.cell? ⟨b, o + 3, none⟩ = some (.int .i64 e.line) :=
  ⟨h 0 _ rfl, h 1 _ rfl, h 2 _ rfl, h 3 _ rfl⟩

def eqRw (a b : Rw) : Bool := a.mon == b.mon && a.hrs == b.hrs && a.rate == b.rate && a.line == b.line
theorem eqRw_iff (a b : Rw) : eqRw a b = true ↔ a = b := by
  obtain ⟨a0, a1, a2, a3⟩ := a
  obtain ⟨b0, b1, b2, b3⟩ := b
  simp [eqRw]
  constructor
  · rintro ⟨⟨⟨h0, h1⟩, h2⟩, h3⟩
    exact ⟨h0, h1, h2, h3⟩
  · rintro ⟨h0, h1, h2, h3⟩
    exact ⟨⟨⟨h0, h1⟩, h2⟩, h3⟩

/-! ### The plain function -/
def bef (t : Int) (rs : List Rw) : List Rw := rs.filter (fun r => decide (r.mon < t))

theorem bef_step (t : Int) (rs : List Rw) (i : Nat) (h : i < rs.length) : bef t (rs.take (i + 1)) = if rs[i].mon < t then bef t (rs.take i) ++ [rs[i]] else bef t (rs.take i) := by
  unfold bef
  rw [List.take_succ_eq_append_getElem h, List.filter_append]
  by_cases hc : rs[i].mon < t <;> simp [hc]

theorem bef_le (t : Int) (rs : List Rw) (i : Nat) : (bef t (rs.take i)).length ≤ (bef t rs).length := by
  unfold bef
  conv => rhs; rw [← List.take_append_drop i rs, List.filter_append, List.length_append]
  omega

theorem bef_len (t : Int) (rs : List Rw) : (bef t rs).length ≤ rs.length := List.length_filter_le _ _

theorem bef_all (t : Int) (rs : List Rw) : rs.length ≤ (bef t rs).length → bef t rs = rs := by
  intro h
  exact (List.filter_sublist).eq_of_length_le h

theorem bef_mem (t : Int) (rs : List Rw) (i : Nat) (h : i < (bef t rs).length) : (bef t rs)[i].mon < t := by
  have := List.getElem_mem h
  have := (List.mem_filter.1 this).2
  simpa using this

theorem bef_bef (s t : Int) (rs : List Rw) : bef s (bef t rs) = bef (if s < t then s else t) rs := by
  unfold bef
  rw [List.filter_filter]
  congr 1
  funext r
  split
  · by_cases h1 : r.mon < s
    · have h2 : r.mon < t := by omega
      simp [h1, h2]
    · simp [h1]
  · by_cases h1 : r.mon < t
    · have h2 : r.mon < s := by omega
      simp [h1, h2]
    · simp [h1]

/-- The place of a row that stays. -/
theorem bef_get (t : Int) (rs : List Rw) (i : Nat) (h : i < rs.length) (hc : rs[i].mon < t) : (bef t rs)[(bef t (rs.take i)).length]? = some rs[i] := by
  have e : rs = rs.take i ++ rs[i] :: rs.drop (i + 1) := by rw [← List.drop_eq_getElem_cons h, List.take_append_drop]
  have e2 : bef t rs = bef t (rs.take i) ++ rs[i] :: bef t (rs.drop (i + 1)) := by
    conv => lhs; rw [e]
    unfold bef
    rw [List.filter_append, List.filter_cons_of_pos (by simpa using hc)]
  rw [e2, List.getElem?_append_right (Nat.le_refl _)]
  simp
end Go.Proofs.Qxb6003633a
