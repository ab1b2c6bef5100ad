/-
  The events as plain data.
-/
import Derived.Test.Qxb6003632aProg
import Derived.Test.Qxb6003632aGen
namespace Go.Proofs.Qxb6003632a
open Go.RowKit

structure Ev where
  tick : Int
  seq : Int
  bid : Int
  task : Int
  ctr : Int
  kind : Int
  perf : Int

def Ev.cells (e : Ev) : List Value := [.int .i64 e.tick, .int .u64 e.seq, .int .i64 e.bid, .int .i32 e.task, .int .i32 e.ctr, .int .u8 e.kind, .int .i64 e.perf]
def Ev.val (e : Ev) : Value := .agg #[.int .i64 e.tick, .int .u64 e.seq, .int .i64 e.bid, .int .i32 e.task, .int .i32 e.ctr, .int .u8 e.kind, .int .i64 e.perf]
def zeroEv : Ev := ⟨0, 0, 0, 0, 0, 0, 0⟩
theorem ev_len (e : Ev) : e.cells.length = 7 := rfl
theorem ev_val (e : Ev) : e.val.cells.toList = e.cells := rfl
theorem ev_one (e : Ev) : ∀ u ∈ e.cells, u.oneCell' = true := by
  intro u hu
  simp only [Ev.cells, List.mem_cons, List.not_mem_nil, or_false] at hu
  rcases hu with rfl | rfl | rfl | rfl | rfl | rfl | rfl <;> rfl

theorem Try.mixed : Try.prog.follows .mixedOrders = true := by kernel_rfl
theorem Try.size40 : (Try.prog.info? 40).map (·.size) = some 7 := by kernel_rfl
theorem Try.size48 : (Try.prog.info? 48).map (·.size) = some 7 := by kernel_rfl
theorem Try.info40 : (Try.prog.info? 40).map (fun i => (i.zero, i.size, i.bytes)) = some (some zeroEv.val, 7, 48) := by kernel_rfl
theorem Try.info48 : (Try.prog.info? 48).map (fun i => (i.zero, i.size, i.bytes)) = some (some zeroEv.val, 7, 48) := by kernel_rfl

/-- The seven cells of an event, one by one. -/
theorem ev_at {w : World} {b o : Nat} {e : Ev} (h : At w b o e.cells) : w.cell? ⟨b, o, none⟩ = some (.int .i64 e.tick) ∧ w.cell? ⟨b, o + 1, none⟩ = some (.int .u64 e.seq) ∧ w.cell? ⟨b, o + 2, none⟩ = some (.int .i64 e.bid) ∧
    w.cell? ⟨b, o + 3, none⟩ = some (.int .i32 e.task) ∧ w.cell? ⟨b, o + 4, none⟩ = some (.int .i32 e.ctr) ∧ w.cell? ⟨b, o + 5, none⟩ = some (.int .u8 e.kind) ∧ w.cell? ⟨b, o + 6, none⟩ = some (.int .i64 e.perf) :=
  ⟨h 0 _ rfl, h 1 _ rfl, h 2 _ rfl, h 3 _ rfl, h 4 _ rfl, h 5 _ rfl, h 6 _ rfl⟩

/-! ### The plain functions -/
def keyLess (a b : Ev) : Bool := if a.tick != b.tick then decide (a.tick < b.tick) else if a.kind != b.kind then decide (a.kind < b.kind) else decide (a.seq < b.seq)
def fullLess (a b : Ev) : Bool :=
  if a.tick != b.tick || a.kind != b.kind || a.seq != b.seq then keyLess a b
  else if a.bid != b.bid then decide (a.bid < b.bid) else if a.task != b.task then decide (a.task < b.task) else if a.ctr != b.ctr then decide (a.ctr < b.ctr) else decide (a.perf < b.perf)
def eqEv (a b : Ev) : Bool := a.tick == b.tick && a.seq == b.seq && a.bid == b.bid && a.task == b.task && a.ctr == b.ctr && a.kind == b.kind && a.perf == b.perf
theorem eqEv_iff (a b : Ev) : eqEv a b = true ↔ a = b := by
  obtain ⟨a0, a1, a2, a3, a4, a5, a6⟩ := a
  obtain ⟨b0, b1, b2, b3, b4, b5, b6⟩ := b
  simp [eqEv]
  constructor
  · rintro ⟨⟨⟨⟨⟨⟨h0, h1⟩, h2⟩, h3⟩, h4⟩, h5⟩, h6⟩
    exact ⟨h0, h1, h2, h3, h4, h5, h6⟩
  · rintro ⟨h0, h1, h2, h3, h4, h5, h6⟩
    exact ⟨⟨⟨⟨⟨⟨h0, h1⟩, h2⟩, h3⟩, h4⟩, h5⟩, h6⟩

def heapUpTo (es : List Ev) (n : Nat) : Prop := ∀ i (h : i < es.length), 1 ≤ i → i < n → keyLess es[i] (es[(i - 1) / 2]'(by omega)) = false
def Heap (es : List Ev) : Prop := heapUpTo es es.length
end Go.Proofs.Qxb6003632a
