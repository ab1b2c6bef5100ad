import Derived.Test.Qxb6003663aText
namespace Go.Proofs.Qxb6003663a
open Go.RowKit

theorem fr_fieldAt {P : Program} (s : TypeId) (v : Value) (f : Nat) (x : Operand) (h : fieldOk P (.fieldAddr s x f) = true) : Fr P (Instr.fieldAt s v f) := by
  unfold Instr.fieldAt
  simp only [fieldOk] at h
  -- the fields are those of P
  have hu : ∀ w, (underlying s).run P w = match P.underlying s with | some d => .ok d w | none => .halt (.stuck "no such type") w := by
    intro w
    simp only [underlying, Sem.run_bind, run_program, Result.andThen_ok]
    cases P.underlying s <;> rfl
  cases hP : P.underlying s with
  | none => exact .inr fun w => ⟨_, _, by rw [Sem.run_bind, hu, hP]; rfl⟩
  | some d =>
    rw [hP] at h
    have hb : ∀ {β : Type} (k : TypeDesc → Sem β), Fr P (k d) → Fr P (underlying s >>= k) := by
      intro β k hk
      rcases hk with ⟨b, hb⟩ | hb
      · exact .inl ⟨b, fun w => by rw [Sem.run_bind, hu, hP]; exact hb w⟩
      · exact .inr fun w => by rw [Sem.run_bind, hu, hP]; exact hb w
    refine hb _ ?_
    cases d with
    | struct fields =>
      dsimp only at h ⊢
      cases hf : fields[f]? with
      | none => exact fr_stuck _
      | some g =>
        rw [hf] at h
        dsimp only at h ⊢
        refine fr_bind (fr_sureAddr _) fun a => fr_bind ?_ fun _ => fr_pure _
        unfold fieldPlace
        have hs : ∀ w, (sizeOf g.type).run P w = match P.info? g.type with | some i => .ok i.size w | none => .halt (.stuck "no such type") w := by
          intro w
          simp only [sizeOf, typeInfo, Sem.run_bind, run_program, Result.andThen_ok]
          cases P.info? g.type <;> rfl
        cases hi : P.info? g.type with
        | none => exact .inr fun w => ⟨_, _, by rw [Sem.run_bind, hs, hi]; rfl⟩
        | some i =>
          rw [hi] at h
          have h0 : i.size ≠ 0 := by simpa using h
          refine .inl ⟨a.add g.offset, fun w => ?_⟩
          rw [Sem.run_bind, hs, hi]
          simp [h0]
    | _ => exact fr_stuck _

theorem fr_len (P : Program) (ts : Array TypeId) (t : TypeId) (args : Array Value) (h : args.all isSliceV = true) : Fr P (Builtin.len_ ts t args) := by
  unfold Builtin.len_
  cases h0 : ts[0]? with
  | none => exact fr_stuck _
  | some t0 =>
    cases h1 : args[0]? with
    | none => exact fr_stuck _
    | some x =>
      have hx : isSliceV x = true := by
        have hm : x ∈ args := Array.mem_of_getElem? h1
        exact (Array.all_eq_true_iff_forall_mem.1 h) x hm
      cases x <;> simp only [isSliceV] at hx <;> try (exact absurd hx (by decide))
      dsimp only
      refine fr_bind (fr_underlying _) fun u => ?_
      cases u <;> dsimp only <;> repeat' (first | exact fr_pure _ | exact fr_stuck _ | exact fr_underlying _ | refine fr_bind ?_ fun _ => ?_ | split)

theorem run_eqGuard_int (P : Program) (op : BinOp) (t : TypeId) (x y : Operand) (k k' : IntKind) (a b : Int) (w : World) : (eqGuard op t x y (.int k a) (.int k' b)).run P w = .ok () w := by
  unfold eqGuard
  cases op <;> rfl

/-- What 'cls' calls 0 only computes, on such values. -/
theorem fr_execOp {P : Program} {ts : List TypeId} {o : Oper} {ρ : Operand → Value} (hc : cls ts o.op = 0) (hv : okVals ρ o.op = true) (hf : fieldOk P o.op = true) : Fr P (execOp ρ o) := by
  obtain ⟨dst, op, type, pos, after, guard⟩ := o
  dsimp only at hc hv hf
  cases op <;> simp only [cls] at hc <;> (try (exact absurd hc (by decide))) <;> simp only [execOp]
  case move x => exact fr_pure _
  case assign x => exact fr_pure _
  case pick c a b =>
    refine fr_bind ?_ fun _ => fr_pure _
    unfold asBool
    split
    · exact fr_pure _
    · exact fr_stuck _
  case build t ps => exact fr_value (fr_build _ _)
  case nilCheck x =>
    simp only [okVals] at hv
    cases hx : ρ x <;> rw [hx] at hv <;> simp only [isPtrV] at hv <;> try (exact absurd hv (by decide))
    rename_i a
    cases a with
    | none => exact fr_runtimePanic_nil
    | some a => exact fr_pure _
  case binOp op t x y yt =>
    simp only [okVals, Bool.and_eq_true] at hv
    obtain ⟨h1, h2⟩ := hv
    cases hx : ρ x <;> rw [hx] at h1 <;> simp only [isIntV] at h1 <;> try (exact absurd h1 (by decide))
    cases hy : ρ y <;> rw [hy] at h2 <;> simp only [isIntV] at h2 <;> try (exact absurd h2 (by decide))
    refine fr_value (fr_bind (.inl ⟨(), fun w => run_eqGuard_int _ _ _ _ _ _ _ _ _ _⟩) fun _ => fr_binInt _ _ _ _ _ _ _)
  case unOp op t x => exact fr_value (fr_unary _ _)
  case convert src dst x =>
    simp only [okVals] at hv
    cases hx : ρ x <;> rw [hx] at hv <;> simp only [isIntV] at hv <;> try (exact absurd hv (by decide))
    rename_i k n
    simp only [fieldOk] at hf
    refine fr_value ?_
    unfold convert
    refine fr_bind (fr_underlying _) fun u => ?_
    cases hP : P.underlying dst with
    | none => rw [hP] at hf; exact absurd hf (by simp)
    | some d =>
      rw [hP] at hf
      cases d
      all_goals first | (exfalso; revert hf; simp; done) | skip
      rename_i kd
      refine .inl ⟨.int kd (kd.wrap n), fun w => ?_⟩
      simp only [Sem.run_bind, underlying, run_program, Result.andThen_ok, hP, Sem.run_pure]
      rfl
  case slice t x lo hi mx => exact fr_value (fr_sliceAt _ _ _ _ _)
  case fieldAddr s x f => exact fr_value (fr_fieldAt _ _ _ x hf)
  case indexAddr t x i => exact fr_value (fr_indexAt _ _ _)
  case call c =>
    obtain ⟨callee, args, argTypes⟩ := c
    cases callee with
    | value f => exact absurd hc (by simp)
    | invoke r m => exact absurd hc (by simp)
    | builtin b =>
      cases b
      all_goals first | (exfalso; revert hc; simp; done) | skip
      simp only [okVals] at hv
      have h1 : (args.map ρ).all isSliceV = true := by
        rw [Array.all_map]; exact hv
      exact fr_value (fr_len _ _ _ _ h1)

theorem rd_execOp {P : Program} {ts : List TypeId} {o : Oper} {ρ : Operand → Value} (hc : cls ts o.op = 1) : Rd P (execOp ρ o) := by
  obtain ⟨dst, op, type, pos, after, guard⟩ := o
  dsimp only at hc
  cases op <;> simp only [cls] at hc <;> first | (exact absurd hc (by decide)) | skip
  case load t a => exact rd_bind (rd_loadAt _ _) fun _ => (fr_pure _).rd
  case binOp op t x y yt => split at hc <;> exact absurd hc (by decide)
  case call c =>
    exfalso; revert hc
    split <;> first | (exact absurd · (by decide)) | skip
    all_goals simp_all

/-- The value of an operation of class 0 or 1 is a value. -/
theorem val_execOp {P : Program} {ts : List TypeId} {o : Oper} {ρ : Operand → Value} (hc : cls ts o.op ≤ 1) {n : Next} {w w' : World} (h : (execOp ρ o).run P w = .ok n w') : ∃ v, n = .value v := by
  have key : ∀ s : Sem Value, (do pure (Next.value (← s)) : Sem Next).run P w = .ok n w' → ∃ v, n = .value v := by
    intro s hs
    rw [Sem.run_bind] at hs
    cases hr : s.run P w with
    | ok v w1 => rw [hr] at hs; simp at hs; exact ⟨v, hs.1.symm⟩
    | halt x w1 => rw [hr] at hs; simp at hs
  obtain ⟨dst, op, type, pos, after, guard⟩ := o
  dsimp only at hc
  cases op
  all_goals first | (exfalso; revert hc; simp [cls]; done) | skip
  all_goals simp only [execOp] at h
  case move x => simp at h; exact ⟨_, h.1.symm⟩
  case assign x => simp at h; exact ⟨_, h.1.symm⟩
  case pick c a b =>
    rw [Sem.run_bind] at h
    cases hr : (asBool (ρ c)).run P w with
    | ok v w1 => rw [hr] at h; simp at h; exact ⟨_, h.1.symm⟩
    | halt x w1 => rw [hr] at h; simp at h
  case nilCheck x =>
    split at h
    · simp [runtimePanic] at h
    · simp [runtimePanic] at h
    · simp [runtimePanic] at h
    · split at h
      · simp [runtimePanic] at h
      · rw [Sem.run_bind] at h
        revert h
        generalize ((program).run P w) = r
        intro h
        cases r with
        | halt x w1 => simp at h
        | ok p w1 =>
          simp only [Result.andThen_ok] at h
          rw [Sem.run_bind] at h
          revert h
          generalize (Sem.run P _ w1) = r
          intro h
          cases r with
          | halt x w1 => simp at h
          | ok b w2 =>
            simp only [Result.andThen_ok] at h
            split at h
            · simp at h
            · simp at h; exact ⟨_, h.1.symm⟩
      · simp at h; exact ⟨_, h.1.symm⟩
    · simp at h; exact ⟨_, h.1.symm⟩
  case call c =>
    obtain ⟨callee, args, argTypes⟩ := c
    cases callee with
    | value f => exact absurd hc (by simp [cls])
    | invoke r m => exact absurd hc (by simp [cls])
    | builtin b =>
      cases b
      all_goals first | (exfalso; revert hc; simp [cls]; done) | skip
      exact key _ h
  all_goals exact key _ h

end Go.Proofs.Qxb6003663a
