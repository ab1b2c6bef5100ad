import Derived.Test.Qxb6003663aText2
namespace Go.Proofs.Qxb6003663a
open Go.RowKit

/-- Only the plain end counts. -/
def only (K : Act → World → Prop) : Exit → Act → World → Prop
  | .normal, a, w => K a w
  | _, _, _ => False

section
variable {P : Program} {ops : Array Oper} {K : Act → World → Prop} {ts : List TypeId}

theorem only_out : ¬ LetsOut (only K) := fun ⟨_, _, h⟩ => h

theorem wpOp_false {i : Nat} {a : Act} {w : World} (h : wpOp P ops (only K) i (fun _ _ => False) a w) : False := by
  unfold wpOp at h
  split at h
  · exact h
  · split at h
    · rcases h with h | ⟨_, h⟩
      · unfold Oper.wp at h
        generalize (execOp a.eval _).run P w = r at h
        cases r with
        | ok n w' =>
          cases n <;> simp only [Oper.upon] at h
          case enter f args =>
            obtain ⟨e, w'', fr, hR, _⟩ := h []
            cases e
            · exact hR
            · exact hR
            · exact only_out hR
          case row row args =>
            obtain ⟨v, w'', hR, _⟩ := h (Frame.enter P 0 #[] .normal) []
            exact hR
        | halt x w' => cases x <;> simp only [Oper.upon] at h; exact h
      · exact only_out h
    · exact h

/-- What an operation leaves: its own slot is put, nothing else but the deferred calls has turned. -/
theorem wpOp_upd {i : Nat} {o : Oper} (hi : ops[i]? = some o) {K' : Act → World → Prop} {a : Act} {w : World} (h : wpOp P ops (only K) i K' a w) :
    wpOp P ops (only K) i (fun a' w' => (∃ v d, a' = ({ a with defers := d } : Act).put o.dst v) ∧ K' a' w') a w := by
  unfold wpOp at *
  simp only [hi] at *
  split
  · rename_i hw
    simp only [hw, if_true] at h
    rcases h with h | h
    case inr => exact .inr h
    refine .inl ?_
    unfold Oper.wp at *
    generalize (execOp a.eval o).run P w = r at *
    cases r with
    | ok n w' =>
      cases n <;> simp only [Oper.upon] at h ⊢
      case value v => exact ⟨⟨v, a.defers, rfl⟩, h⟩
      case skip => exact ⟨⟨undef, a.defers, rfl⟩, h⟩
      case defer d => exact ⟨⟨undef, d :: a.defers, rfl⟩, h⟩
      case enter f args =>
        refine Calls.mono h fun e w'' he => ?_
        cases e with
        | returned v => exact ⟨⟨v, a.defers, rfl⟩, he⟩
        | panicked c => exact he
        | outgrown => exact he
      case row row args => exact Rows.mono h fun v w'' he => ⟨⟨v, a.defers, rfl⟩, he⟩
    | halt x w' => cases x <;> simp only [Oper.upon] at h ⊢; exact h
  · rename_i hw
    simp only [hw] at h
    exact ⟨⟨undef, a.defers, rfl⟩, h⟩

theorem eval_defers (a : Act) (d : List Deferred) : ({ a with defers := d } : Act).eval = a.eval := by
  funext x; cases x <;> rfl

def notSel : Op → Bool
  | .select _ _ => false
  | _ => true
theorem notSel_spec {o : Op} (h : notSel o = true) : ∀ cs b, o ≠ .select cs b := by
  intro cs b e; subst e; simp [notSel] at h

theorem execOp_upd {o x : Oper} (hs : notSel o.op = true) {a : Act} {v : Value} {d : List Deferred} (h : ∀ t, x.dst = some t → t ∉ o.looksAt ops) :
    execOp (({ a with defers := d } : Act).put x.dst v).eval o = execOp a.eval o := by
  rw [execOp_put (ops := ops) o (notSel_spec hs) _ _ _ h, eval_defers]
theorem wanted_upd {o x : Oper} {a : Act} {v : Value} {d : List Deferred} (h : ∀ t, x.dst = some t → t ∉ o.looksAt ops) :
    Region.wanted o (yielded ops (({ a with defers := d } : Act).put x.dst v).tmps) = Region.wanted o (yielded ops a.tmps) := by
  rw [wanted_put o _ _ _ h]

theorem okVals_congr {ρ ρ' : Operand → Value} (o : Op) (h : ∀ x ∈ o.operands, ρ x = ρ' x) : okVals ρ o = okVals ρ' o := by
  cases o <;> simp only [okVals] <;> simp only [Op.operands] at h
  case nilCheck x => rw [h x (by simp)]
  case binOp op t x y yt => rw [h x (by simp), h y (by simp)]
  case convert s d x => rw [h x (by simp)]
  case call c =>
    obtain ⟨callee, args, argTypes⟩ := c
    cases callee with
    | value f => rfl
    | invoke r m => rfl
    | builtin b =>
      cases b <;> simp only [Call.operands] at h ⊢
      have key : args.map ρ = args.map ρ' := Array.map_congr_left fun x hx => h x (by simp [hx])
      have e1 : ∀ r : Operand → Value, (args.all fun x => isSliceV (r x)) = (args.map r).all isSliceV := fun r => by rw [Array.all_map]; rfl
      rw [e1, e1, key]

theorem okVals_upd {o x : Oper} {a : Act} {v : Value} {d : List Deferred} (h : ∀ t, x.dst = some t → t ∉ o.looksAt ops) :
    okVals (({ a with defers := d } : Act).put x.dst v).eval o.op = okVals a.eval o.op := by
  refine okVals_congr _ fun y hy => ?_
  rw [Act.eval_put, eval_defers]
  intro t ht e
  subst e
  exact h t ht (List.mem_append_left _ (List.mem_filterMap.2 ⟨.tmp t, by simpa using hy, rfl⟩))

/-- Behind the region the values on which what only computes was carried out are such as it asks. -/
def okFin (ts : List TypeId) (ops : Array Oper) (a : Act) : Bool :=
  ops.toList.all fun o => cls ts o.op != 0 || !(asksVals o.op) || !(Region.wanted o (yielded ops a.tmps)) || okVals a.eval o.op

def nw (ops : Array Oper) (o : Oper) (k : Nat) : Prop := ∀ x, ops[k]? = some x → ∀ t, x.dst = some t → t ∉ o.looksAt ops

theorem ops_none {i : Nat} (hi : ops[i]? = none) {K' : Act → World → Prop} {a : Act} {w : World} (h : wpOp P ops (only K) i K' a w) : K' a w := by
  unfold wpOp at h; simpa [hi] using h

theorem bad_vals (hK : ∀ a w, K a w → okFin ts ops a = true) {o : Oper} (ho : o ∈ ops.toList) (hc : cls ts o.op = 0) (hask : asksVals o.op = true) :
    ∀ (l : List Nat) (a : Act) (w : World), (∀ k ∈ l, nw ops o k) → Region.wanted o (yielded ops a.tmps) = true → okVals a.eval o.op = false →
      wpOps P ops (only K) l a w → False
  | [], a, w, _, hw, hv, h => by
    have := List.all_eq_true.1 (hK a w h) o ho
    simp [hc, hask, hw, hv] at this
  | k :: l, a, w, hl, hw, hv, h => by
    rw [wpOps_cons] at h
    cases hk : ops[k]? with
    | none => exact bad_vals hK ho hc hask l a w (fun k hk => hl k (List.mem_cons_of_mem _ hk)) hw hv (ops_none hk h)
    | some x =>
      refine wpOp_false (wpOp_mono (fun a' w' => ?_) (wpOp_upd hk h))
      rintro ⟨⟨v, d, rfl⟩, h'⟩
      have hn := hl k (List.mem_cons_self ..) x hk
      exact bad_vals hK ho hc hask l _ w' (fun k hk => hl k (List.mem_cons_of_mem _ hk)) (by rw [wanted_upd hn]; exact hw) (by rw [okVals_upd hn]; exact hv) h'

/-- At a state from which the rest comes to its end, what only computes has its value, or dies at once. -/
theorem yields_or (hK : ∀ a w, K a w → okFin ts ops a = true) {o : Oper} (ho : o ∈ ops.toList) (hc : cls ts o.op = 0) (hf : fieldOk P o.op = true)
    {l : List Nat} {a : Act} {w : World} (hl : asksVals o.op = true → ∀ k ∈ l, nw ops o k) (h : wpOps P ops (only K) l a w) :
    (∃ v, Yields P ops o v a) ∨ (Region.wanted o (yielded ops a.tmps) = true ∧ ∀ w, ∃ x w', (execOp a.eval o).run P w = .halt x w') := by
  cases hw : Region.wanted o (yielded ops a.tmps) with
  | false => exact .inl ⟨undef, .inr ⟨hw, rfl⟩⟩
  | true =>
    have hv : okVals a.eval o.op = true := by
      cases hv : okVals a.eval o.op with
      | true => rfl
      | false =>
        cases hask : asksVals o.op with
        | true => exact (bad_vals hK ho hc hask l a w (hl hask) hw hv h).elim
        | false =>
          exfalso
          revert hv hask
          cases o.op <;> simp [okVals, asksVals]
    rcases fr_execOp hc hv hf with ⟨n, hn⟩ | hh
    · obtain ⟨v, rfl⟩ := val_execOp (ts := ts) (by omega) (hn w)
      exact .inl ⟨v, .inl ⟨hw, hn⟩⟩
    · exact .inr ⟨rfl, hh⟩

theorem wpOp_halts {i : Nat} {o : Oper} (hi : ops[i]? = some o) {K' : Act → World → Prop} {a : Act} {w w' : World} {x : Halt}
    (hw : Region.wanted o (yielded ops a.tmps) = true) (hr : (execOp a.eval o).run P w = .halt x w') (h : wpOp P ops (only K) i K' a w) : False := by
  unfold wpOp at h
  simp only [hi, hw, if_true] at h
  rcases h with h | ⟨_, h⟩
  · unfold Oper.wp at h
    rw [hr] at h
    cases x <;> simp only [Oper.upon] at h
    exact h
  · exact only_out h

/-- In state 'a' and world 'w' operation 'o' leaves 'v' in its slot and does nothing else. -/
def YieldsAt (P : Program) (ops : Array Oper) (o : Oper) (v : Value) (a : Act) (w : World) : Prop :=
  (Region.wanted o (yielded ops a.tmps) = true ∧ (execOp a.eval o).run P w = .ok (.value v) w) ∨
  (Region.wanted o (yielded ops a.tmps) = false ∧ v = undef)
theorem yields_at {o : Oper} {v : Value} {a : Act} (h : Yields P ops o v a) (w : World) : YieldsAt P ops o v a w :=
  h.imp (fun ⟨hw, hv⟩ => ⟨hw, hv w⟩) id
theorem YieldsAt.into {i : Nat} {o : Oper} {v : Value} {a : Act} {w : World} (hi : ops[i]? = some o) (hy : YieldsAt P ops o v a w)
    {K' : Act → World → Prop} {Q : Exit → Act → World → Prop} (h : K' (a.put o.dst v) w) : wpOp P ops Q i K' a w := by
  unfold wpOp
  simp only [hi]
  rcases hy with ⟨hw, hv⟩ | ⟨hw, rfl⟩
  · simp only [hw, if_true, Oper.wp, hv, Oper.upon]; exact .inl h
  · simp only [hw, Bool.false_eq_true, if_false]; exact h
theorem YieldsAt.from_ {i : Nat} {o : Oper} {v : Value} {a : Act} {w : World} (hi : ops[i]? = some o) (hy : YieldsAt P ops o v a w)
    {K' : Act → World → Prop} (h : wpOp P ops (only K) i K' a w) : K' (a.put o.dst v) w := by
  unfold wpOp at h
  simp only [hi] at h
  rcases hy with ⟨hw, hv⟩ | ⟨hw, rfl⟩
  · simp only [hw, if_true, Oper.wp, hv, Oper.upon] at h
    rcases h with h | ⟨_, h⟩
    · exact h
    · exact (only_out h).elim
  · simpa [hw] using h

theorem yieldsAt_of_rd {i : Nat} {o : Oper} (hi : ops[i]? = some o) (hc : cls ts o.op = 1) {K' : Act → World → Prop} {a : Act} {w : World}
    (h : wpOp P ops (only K) i K' a w) : ∃ v, YieldsAt P ops o v a w := by
  cases hw : Region.wanted o (yielded ops a.tmps) with
  | false => exact ⟨undef, .inr ⟨hw, rfl⟩⟩
  | true =>
    rcases rd_execOp (P := P) (ρ := a.eval) hc w with ⟨n, hn⟩ | ⟨x, w', hx⟩
    · obtain ⟨v, rfl⟩ := val_execOp (ts := ts) (by omega) hn
      exact ⟨v, .inl ⟨hw, hn⟩⟩
    · exact (wpOp_halts hi hw hx h).elim

/-- What an operation does behind a slot that it does not look at being put. -/
theorem wpOp_put_rev {j : Nat} {oi oj : Oper} {v : Value} (hj : ops[j]? = some oj) (hap : oi.apart ops oj = true) (hsj : notSel oj.op = true)
    {K' : Act → World → Prop} {a : Act} {w : World} (h : wpOp P ops (only K) j (fun a' w' => K' (a'.put oi.dst v) w') a w) :
    wpOp P ops (only K) j K' (a.put oi.dst v) w := by
  obtain ⟨h1, h2, _⟩ := Oper.apart_spec hap
  unfold wpOp at *
  simp only [hj] at *
  rw [wanted_put oj a oi.dst v h1]
  split
  · rename_i hw
    simp only [hw, if_true] at h
    rcases h with h | ⟨_, h⟩
    · refine .inl ?_
      unfold Oper.wp at *
      rw [execOp_put (ops := ops) oj (notSel_spec hsj) a oi.dst v h1]
      generalize (execOp a.eval oj).run P w = r at *
      cases r with
      | ok n w' =>
        cases n <;> simp only [Oper.upon] at h ⊢
        case value u => rw [Act.put_comm a v u h2]; exact h
        case skip => rw [Act.put_comm a v undef h2]; exact h
        case defer d =>
          rw [Act.put_defers, Act.put_comm _ v undef h2]
          exact h
        case enter f args =>
          refine Calls.mono h fun e w'' he => ?_
          cases e with
          | returned u => show K' ((a.put oi.dst v).put oj.dst u) w''; rw [Act.put_comm a v u h2]; exact he
          | panicked c => exact he
          | outgrown => exact he
        case row row args => exact Rows.mono h fun u w'' he => by rw [Act.put_comm a v u h2]; exact he
      | halt x w' => cases x <;> simp only [Oper.upon] at h ⊢; exact h
    · exact (only_out h).elim
  · rename_i hw
    simp only [hw] at h
    rw [Act.put_comm a v undef h2]; exact h

def comm (c d : Nat) : Bool := c == 0 || d == 0 || (c == 1 && d == 1)

theorem apart_symm {x y : Oper} (h : x.apart ops y = true) : y.apart ops x = true := by
  obtain ⟨h1, h2, h3⟩ := Oper.apart_spec h
  unfold Oper.apart
  cases hx : x.dst with
  | none =>
    cases hy : y.dst with
    | none => rfl
    | some e => simpa using h3 e hy
  | some d =>
    cases hy : y.dst with
    | none => simpa using h1 d hx
    | some e =>
      have a1 := h1 d hx
      have a2 := h2 d hx
      have a3 := h3 e hy
      rw [hy] at a2
      simp
      exact ⟨⟨a3, fun e' => a2 (by rw [e'])⟩, a1⟩

/-- Two operations that commute, side by side. -/
theorem swap (hK : ∀ a w, K a w → okFin ts ops a = true) {i j : Nat} {oi oj : Oper} (hi : ops[i]? = some oi) (hj : ops[j]? = some oj)
    (hsi : notSel oi.op = true) (hsj : notSel oj.op = true) (hfi : fieldOk P oi.op = true) (hfj : fieldOk P oj.op = true)
    (hap : oj.apart ops oi = true) (hcm : comm (cls ts oj.op) (cls ts oi.op) = true) {rest : List Nat} {a : Act} {w : World}
    (hnj : asksVals oj.op = true → ∀ k ∈ j :: i :: rest, nw ops oj k) (hni : asksVals oi.op = true → ∀ k ∈ j :: i :: rest, nw ops oi k)
    (h : wpOps P ops (only K) (j :: i :: rest) a w) : wpOps P ops (only K) (i :: j :: rest) a w := by
  have mi : oi ∈ ops.toList := by simpa using Array.mem_of_getElem? hi
  have mj : oj ∈ ops.toList := by simpa using Array.mem_of_getElem? hj
  have hap' := apart_symm hap
  obtain ⟨h1, h2, h3⟩ := Oper.apart_spec hap
  by_cases c1 : cls ts oj.op = 0
  · rcases yields_or hK mj c1 hfj hnj h with ⟨v, hy⟩ | ⟨hw, hh⟩
    · rw [wpOps_cons] at h
      have h' := (yields_at hy w).from_ hj h
      rw [wpOps_cons] at h' ⊢
      refine wpOp_mono (fun a' w' => ?_) (wpOp_put (Q := only K) hi hap (notSel_spec hsj) (notSel_spec hsi) (fun c a w h => h) hy h')
      rintro ⟨hy', hk⟩
      rw [wpOps_cons]
      exact (yields_at hy' w').into hj hk
    · rw [wpOps_cons] at h
      obtain ⟨x, w', hx⟩ := hh w
      exact (wpOp_halts hj hw hx h).elim
  · by_cases c2 : cls ts oi.op = 0
    · rcases yields_or hK mi c2 hfi hni h with ⟨v, hy⟩ | ⟨hw, hh⟩
      · rw [wpOps_cons] at h ⊢
        refine (yields_at hy w).into hi ?_
        rw [wpOps_cons]
        refine wpOp_put_rev hj hap' hsj ?_
        refine wpOp_mono (fun a' w' => ?_) (wpOp_upd hj h)
        rintro ⟨⟨u, d, rfl⟩, hk⟩
        rw [wpOps_cons] at hk
        have hy' : Yields P ops oi v (({ a with defers := d } : Act).put oj.dst u) := hy.of_same (execOp_upd hsi h1) (wanted_upd h1)
        exact (yields_at hy' w').from_ hi hk
      · exfalso
        rw [wpOps_cons] at h
        refine wpOp_false (wpOp_mono (fun a' w' => ?_) (wpOp_upd hj h))
        rintro ⟨⟨u, d, rfl⟩, hk⟩
        rw [wpOps_cons] at hk
        obtain ⟨x, w2, hx⟩ := hh w'
        exact wpOp_halts hi (by rw [wanted_upd h1]; exact hw) (by rw [execOp_upd hsi h1]; exact hx) hk
    · have hc : cls ts oj.op = 1 ∧ cls ts oi.op = 1 := by simpa [comm, c1, c2] using hcm
      rw [wpOps_cons] at h ⊢
      obtain ⟨vj, hyj⟩ := yieldsAt_of_rd hj hc.1 h
      have h' := hyj.from_ hj h
      rw [wpOps_cons] at h'
      obtain ⟨vi, hyi⟩ := yieldsAt_of_rd hi hc.2 h'
      have h'' := hyi.from_ hi h'
      have hyi' : YieldsAt P ops oi vi a w := by
        unfold YieldsAt at *
        rw [execOp_put (ops := ops) oi (notSel_spec hsi) a oj.dst vj h1, wanted_put oi a oj.dst vj h1] at hyi
        exact hyi
      refine hyi'.into hi ?_
      rw [wpOps_cons]
      have hyj' : YieldsAt P ops oj vj (a.put oi.dst vi) w := by
        unfold YieldsAt at *
        rw [execOp_put (ops := ops) oj (notSel_spec hsj) a oi.dst vi h3, wanted_put oj a oi.dst vi h3]
        exact hyj
      refine hyj'.into hj ?_
      rw [← Act.put_comm a vj vi h2]
      exact h''
end
end Go.Proofs.Qxb6003663a
