/-
  A region that draws its order, walked in the order of its text: where any two operations that no edge orders commute
  (one of them only computes; or both only read), every order comes to what the text's order comes to.
-/
import Derived.WalkKit
namespace Go.Proofs.Qxb6003663a
open Go.RowKit

/-- 's' gives one and the same answer in every world and leaves it, or fails in every world. -/
def Fr {α : Type} (P : Program) (s : Sem α) : Prop := (∃ a, ∀ w, s.run P w = .ok a w) ∨ (∀ w, ∃ h w', s.run P w = .halt h w')
/-- 's' leaves every world as it was, or fails there. -/
def Rd {α : Type} (P : Program) (s : Sem α) : Prop := ∀ w, (∃ a, s.run P w = .ok a w) ∨ (∃ h w', s.run P w = .halt h w')

section
variable {α β : Type} {P : Program}
theorem Fr.rd {s : Sem α} (h : Fr P s) : Rd P s := by
  intro w
  rcases h with ⟨a, ha⟩ | h
  · exact .inl ⟨a, ha w⟩
  · exact .inr (h w)
theorem fr_pure (a : α) : Fr P (Pure.pure a : Sem α) := .inl ⟨a, fun _ => rfl⟩
theorem fr_pure' (a : α) : Fr P (Sem.pure a : Sem α) := .inl ⟨a, fun _ => rfl⟩
theorem fr_bind {s : Sem α} {f : α → Sem β} (h : Fr P s) (k : ∀ a, Fr P (f a)) : Fr P (s >>= f) := by
  rcases h with ⟨a, ha⟩ | h
  · rcases k a with ⟨b, hb⟩ | hb
    · exact .inl ⟨b, fun w => by rw [Sem.run_bind, ha]; exact hb w⟩
    · exact .inr fun w => by rw [Sem.run_bind, ha]; exact hb w
  · exact .inr fun w => by
      obtain ⟨x, w', hx⟩ := h w
      exact ⟨x, w', by rw [Sem.run_bind, hx]; rfl⟩
theorem rd_bind {s : Sem α} {f : α → Sem β} (h : Rd P s) (k : ∀ a, Rd P (f a)) : Rd P (s >>= f) := by
  intro w
  rcases h w with ⟨a, ha⟩ | ⟨x, w', hx⟩
  · rw [Sem.run_bind, ha]; exact k a w
  · exact .inr ⟨x, w', by rw [Sem.run_bind, hx]; rfl⟩
theorem fr_halt (x : Halt) : Fr P (Sem.halt x : Sem α) := .inr fun w => ⟨x, w, rfl⟩
theorem fr_stuck (m : String) : Fr P (stuck m : Sem α) := fr_halt _
theorem fr_unsupported (u : Unsupported) : Fr P (unsupported u : Sem α) := fr_halt _
theorem fr_program : Fr P program := .inl ⟨P, fun _ => rfl⟩
theorem fr_underlying (t : TypeId) : Fr P (underlying t) := by
  unfold underlying
  refine fr_bind fr_program fun p => ?_
  split
  · exact fr_pure _
  · exact fr_stuck _
theorem fr_typeInfo (t : TypeId) : Fr P (typeInfo t) := by
  unfold typeInfo
  refine fr_bind fr_program fun p => ?_
  split
  · exact fr_pure _
  · exact fr_stuck _
theorem fr_sizeOf (t : TypeId) : Fr P (sizeOf t) := by
  unfold sizeOf
  exact fr_bind (fr_typeInfo _) fun _ => fr_pure _
theorem fr_zeroValue (t : TypeId) : Fr P (zeroValue t) := by
  unfold zeroValue
  refine fr_bind (fr_typeInfo _) fun i => ?_
  split
  · exact fr_pure _
  · exact fr_unsupported _
theorem fr_isAgg (t : TypeId) : Fr P (isAgg t) := by
  unfold isAgg
  refine fr_bind (fr_underlying _) fun i => ?_
  split <;> exact fr_pure _
theorem fr_runtimePanic_bounds (x y : Int) (s : Bool) (c : BoundsCode) : Fr P (runtimePanic (.bounds x y s c) : Sem α) := by
  unfold runtimePanic
  refine fr_bind fr_program fun p => ?_
  exact fr_halt _
theorem fr_runtimePanic_nil : Fr P (runtimePanic .nilDeref : Sem α) := by
  unfold runtimePanic
  refine fr_bind fr_program fun p => ?_
  exact fr_halt _
theorem fr_runtimePanic_error (m : String) : Fr P (runtimePanic (.error m) : Sem α) := by
  unfold runtimePanic
  refine fr_bind fr_program fun p => ?_
  exact fr_halt _
theorem fr_boundsPanic (k : IntKind) (x y : Int) (c : BoundsCode) : Fr P (boundsPanic k x y c : Sem α) := by
  refine .inr fun w => ?_
  unfold boundsPanic
  have key : ∀ (b : Bool) (w : World), ∃ h w', (runtimePanic (.bounds (IntKind.i64.wrap x) y b c) : Sem α).run P w = .halt h w' := by
    intro b w
    exact ⟨_, _, rfl⟩
  dsimp only
  split
  · exact key _ _
  · exact key _ _
theorem fr_sureAddr (v : Value) : Fr P (Instr.sureAddr v) := by
  unfold Instr.sureAddr
  split
  · exact fr_pure _
  · exact fr_stuck _
theorem fr_asIntOf (v : Value) : Fr P (asIntOf v) := by
  unfold asIntOf
  split
  · exact fr_pure _
  · exact fr_unsupported _
  · exact fr_stuck _
theorem fr_indexAt (t : TypeId) (x i : Value) : Fr P (Instr.indexAt t x i) := by
  unfold Instr.indexAt
  repeat' (first
    | exact fr_pure _ | exact fr_stuck _ | exact fr_unsupported _ | exact fr_halt _ | exact fr_boundsPanic _ _ _ _ | exact fr_sizeOf _ | exact fr_underlying _ | exact fr_asIntOf _ | exact fr_sureAddr _
    | exact fr_program | exact fr_typeInfo _ | exact fr_zeroValue _ | exact fr_runtimePanic_nil | exact fr_runtimePanic_error _
    | refine fr_bind ?_ fun _ => ?_ | split | dsimp only)
theorem fr_sliceBound (x : Value) (y : Nat) (c : BoundsCode) : Fr P (Instr.sliceBound x y c) := by
  unfold Instr.sliceBound
  repeat' (first
    | exact fr_pure _ | exact fr_stuck _ | exact fr_unsupported _ | exact fr_halt _ | exact fr_boundsPanic _ _ _ _ | exact fr_sizeOf _ | exact fr_underlying _ | exact fr_asIntOf _ | exact fr_sureAddr _
    | exact fr_program | exact fr_typeInfo _ | exact fr_zeroValue _ | exact fr_runtimePanic_nil | exact fr_runtimePanic_error _
    | refine fr_bind ?_ fun _ => ?_ | split | dsimp only)
theorem fr_sliceBounds (b : Bool) (l c : Nat) (lo hi mx : Option Value) : Fr P (Instr.sliceBounds b l c lo hi mx) := by
  unfold Instr.sliceBounds
  repeat' (first
    | exact fr_pure _ | exact fr_stuck _ | exact fr_unsupported _ | exact fr_halt _ | exact fr_boundsPanic _ _ _ _ | exact fr_sizeOf _ | exact fr_underlying _ | exact fr_asIntOf _ | exact fr_sureAddr _
    | exact fr_program | exact fr_typeInfo _ | exact fr_zeroValue _ | exact fr_runtimePanic_nil | exact fr_runtimePanic_error _
    | exact fr_sliceBound _ _ _ | refine fr_bind ?_ fun _ => ?_ | split | dsimp only)
theorem fr_asAddr (v : Value) : Fr P (asAddr v) := by
  unfold asAddr
  repeat' (first
    | exact fr_pure _ | exact fr_stuck _ | exact fr_unsupported _ | exact fr_halt _ | exact fr_boundsPanic _ _ _ _ | exact fr_sizeOf _ | exact fr_underlying _ | exact fr_asIntOf _ | exact fr_sureAddr _
    | exact fr_program | exact fr_typeInfo _ | exact fr_zeroValue _ | exact fr_runtimePanic_nil | exact fr_runtimePanic_error _
    | refine fr_bind ?_ fun _ => ?_ | split | dsimp only)
theorem fr_slice (t : TypeId) (x : Value) (lo hi mx : Option Value) : Fr P (Instr.slice t x lo hi mx) := by
  unfold Instr.slice
  repeat' (first
    | exact fr_pure _ | exact fr_stuck _ | exact fr_unsupported _ | exact fr_halt _ | exact fr_boundsPanic _ _ _ _ | exact fr_sizeOf _ | exact fr_underlying _ | exact fr_asIntOf _ | exact fr_sureAddr _
    | exact fr_program | exact fr_typeInfo _ | exact fr_zeroValue _ | exact fr_runtimePanic_nil | exact fr_runtimePanic_error _
    | exact fr_sliceBounds _ _ _ _ _ _ | exact fr_asAddr _ | refine fr_bind ?_ fun _ => ?_ | split | dsimp only)
theorem fr_sliceAt (t : TypeId) (x : Value) (lo hi mx : Option Value) : Fr P (Instr.sliceAt t x lo hi mx) := by
  unfold Instr.sliceAt
  repeat' (first
    | exact fr_pure _ | exact fr_stuck _ | exact fr_unsupported _ | exact fr_halt _ | exact fr_boundsPanic _ _ _ _ | exact fr_sizeOf _ | exact fr_underlying _ | exact fr_asIntOf _ | exact fr_sureAddr _
    | exact fr_program | exact fr_typeInfo _ | exact fr_zeroValue _ | exact fr_runtimePanic_nil | exact fr_runtimePanic_error _
    | exact fr_sliceBounds _ _ _ _ _ _ | exact fr_slice _ _ _ _ _ | refine fr_bind ?_ fun _ => ?_ | split | dsimp only)
theorem fr_mapM {f : α → Sem β} (h : ∀ a, Fr P (f a)) : ∀ l : List α, Fr P (l.mapM f)
  | [] => by rw [List.mapM_nil]; exact fr_pure _
  | a :: l => by
    rw [List.mapM_cons]
    exact fr_bind (h a) fun _ => fr_bind (fr_mapM h l) fun _ => fr_pure _
theorem fr_build (t : TypeId) (ps : Array (Nat × Value)) : Fr P (Instr.build t ps) := by
  unfold Instr.build
  refine fr_bind (fr_zeroValue _) fun z => ?_
  refine fr_bind (fr_underlying _) fun u => ?_
  split
  · refine fr_bind ?_ fun places => ?_
    · rename_i fields
      obtain ⟨l⟩ := fields
      rw [List.mapM_toArray]
      exact (fr_bind (fr_mapM (fun f => fr_bind (fr_sizeOf _) fun _ => fr_pure _) _) fun _ => fr_pure _)
    · repeat' (first
        | exact fr_pure _ | exact fr_stuck _ | exact fr_unsupported _ | exact fr_halt _ | exact fr_boundsPanic _ _ _ _ | exact fr_sizeOf _ | exact fr_underlying _ | exact fr_asIntOf _ | exact fr_sureAddr _
        | exact fr_program | exact fr_typeInfo _ | exact fr_zeroValue _ | exact fr_runtimePanic_nil | exact fr_runtimePanic_error _
        | refine fr_bind ?_ fun _ => ?_ | split | dsimp only)
  · repeat' (first
      | exact fr_pure _ | exact fr_stuck _ | exact fr_unsupported _ | exact fr_halt _ | exact fr_boundsPanic _ _ _ _ | exact fr_sizeOf _ | exact fr_underlying _ | exact fr_asIntOf _ | exact fr_sureAddr _
      | exact fr_program | exact fr_typeInfo _ | exact fr_zeroValue _ | exact fr_runtimePanic_nil | exact fr_runtimePanic_error _
      | refine fr_bind ?_ fun _ => ?_ | split | dsimp only)
  · exact fr_stuck _
theorem fr_unary (op : UnOp) (x : Value) : Fr P (Op.unary op x) := by
  unfold Op.unary Op.intArith Op.intBits
  repeat' (first
    | exact fr_pure _ | exact fr_stuck _ | exact fr_unsupported _ | exact fr_halt _ | exact fr_boundsPanic _ _ _ _ | exact fr_sizeOf _ | exact fr_underlying _ | exact fr_asIntOf _ | exact fr_sureAddr _
    | exact fr_program | exact fr_typeInfo _ | exact fr_zeroValue _ | exact fr_runtimePanic_nil | exact fr_runtimePanic_error _
    | refine fr_bind ?_ fun _ => ?_ | split | dsimp only)
theorem fr_intToInt (k : IntKind) (n : Int) : Fr P (Conv.intToInt k n) := fr_pure _
theorem rd_load (a : Addr) (m : Mode) : Rd P (load a m) := by
  intro w
  rw [run_load]
  cases w.cell? a with
  | some v => exact .inl ⟨v, rfl⟩
  | none =>
    dsimp only
    cases w.farLoad P a (m == .atomic) with
    | ok x => exact .inl ⟨x.1, rfl⟩
    | error e => exact .inr ⟨e, w, rfl⟩
theorem rd_loadCellsFrom (a : Addr) : ∀ (n i : Nat) (acc : Array Value), Rd P (loadCellsFrom a i n acc)
  | 0, _, acc => (fr_pure acc).rd
  | n + 1, i, acc => by
    unfold loadCellsFrom
    exact rd_bind (rd_load _ _) fun v => rd_loadCellsFrom a n (i + 1) _
theorem rd_loadVar (t : TypeId) (a : Addr) : Rd P (loadVar t a) := by
  unfold loadVar
  refine rd_bind (fr_isAgg _).rd fun b => ?_
  split
  · exact rd_bind (fr_sizeOf _).rd fun n => rd_bind (rd_loadCellsFrom _ _ _ _) fun _ => (fr_pure _).rd
  · exact rd_load _ _
theorem rd_loadAt (t : TypeId) (v : Value) : Rd P (Instr.loadAt t v) := by
  unfold Instr.loadAt
  exact rd_bind (fr_sureAddr _).rd fun a => rd_loadVar _ _
end

def isIntV : Value → Bool | .int _ _ => true | _ => false
def isPtrV : Value → Bool | .pointer _ => true | _ => false
def isSliceV : Value → Bool | .slice _ _ _ => true | _ => false

/-- 0: it only computes (on values as 'okVals' asks); 1: it only reads; 2: anything. 'ts': the types at which '==' and the like are integers'. -/
def cls (ts : List TypeId) : Op → Nat
  | .move _ | .assign _ | .pick _ _ _ | .indexAddr _ _ _ | .unOp _ _ _ | .nilCheck _ | .slice _ _ _ _ _ | .build _ _ | .convert _ _ _ | .fieldAddr _ _ _ => 0
  | .binOp _ t _ _ _ => if ts.contains t then 0 else 2
  | .call { callee := .builtin .len, .. } => 0
  | .load _ _ => 1
  | _ => 2

def okVals (ρ : Operand → Value) : Op → Bool
  | .binOp _ _ x y _ => isIntV (ρ x) && isIntV (ρ y)
  | .convert _ _ x => isIntV (ρ x)
  | .nilCheck x => isPtrV (ρ x)
  | .call { callee := .builtin .len, args, .. } => args.all fun x => isSliceV (ρ x)
  | _ => true

/-- The operations whose 'okVals' says something. -/
def asksVals : Op → Bool
  | .binOp _ _ _ _ _ | .convert _ _ _ | .nilCheck _ | .call _ => true
  | _ => false

/-- No field of size nothing is addressed. -/
def fieldOk (P : Program) : Op → Bool
  | .fieldAddr s _ f => match P.underlying s with
    | some (.struct fields) => match fields[f]? with
      | some g => match P.info? g.type with
        | some i => i.size != 0
        | none => true
      | none => true
    | _ => true
  | .convert _ dst _ => match P.underlying dst with
    | some (.int _) => true
    | _ => false
  | _ => true

theorem fr_value {P : Program} {s : Sem Value} (h : Fr P s) : Fr P (do pure (Next.value (← s)) : Sem Next) := fr_bind h fun _ => fr_pure _

theorem fr_binInt (P : Program) (op : BinOp) (t : TypeId) (k k' : IntKind) (a b : Int) : Fr P (binOp op t (.int k a) (.int k' b)) := by
  cases op <;> simp only [binOp] <;> (try unfold Op.shift) <;> (try unfold Op.intArith) <;> (try unfold Op.intDiv) <;> (try unfold Op.intBits) <;> (try unfold Op.intCmp) <;>
  repeat' (first
    | exact fr_pure _ | exact fr_stuck _ | exact fr_unsupported _ | exact fr_halt _ | exact fr_runtimePanic_error _ | refine fr_bind ?_ fun _ => ?_ | split | dsimp only)
end Go.Proofs.Qxb6003663a
