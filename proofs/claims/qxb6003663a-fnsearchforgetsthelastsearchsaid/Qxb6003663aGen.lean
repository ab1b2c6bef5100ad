/-
  Rows of elements of k cells each: what a slice reads as, what the call owns, and the laws of the walk on them.
-/
import Derived.Test.Qxb6003663aText4
namespace Go.Proofs.Qxb6003663a
open Go.RowKit

/-! ### What has turned between two worlds: only the blocks of S, and what is new -/
structure Kp (S : Nat → Prop) (w w' : World) : Prop where
  os : w'.os = w.os
  tape : w'.tape = w.tape
  output : w'.output = w.output
  size : w.heap.size ≤ w'.heap.size
  block : ∀ k, k < w.heap.size → ¬ S k → w'.heap[k]? = w.heap[k]?

def No : Nat → Prop := fun _ => False
theorem no_not (k : Nat) : ¬ No k := id

section
variable {S T : Nat → Prop} {w w' w'' : World}
theorem Kp.refl (S : Nat → Prop) (w : World) : Kp S w w := ⟨rfl, rfl, rfl, Nat.le_refl _, fun _ _ _ => rfl⟩
theorem Kp.trans (h : Kp S w w') (k : Kp T w' w'') (hs : ∀ i, i < w.heap.size → T i → S i) : Kp S w w'' :=
  ⟨k.os.trans h.os, k.tape.trans h.tape, k.output.trans h.output, Nat.le_trans h.size k.size,
    fun i hi hn => (k.block i (Nat.lt_of_lt_of_le hi h.size) (fun ht => hn (hs i hi ht))).trans (h.block i hi hn)⟩
theorem Kp.mono (h : Kp S w w') (hs : ∀ i, i < w.heap.size → S i → T i) : Kp T w w' :=
  ⟨h.os, h.tape, h.output, h.size, fun i hi hn => h.block i hi fun s => hn (hs i hi s)⟩
theorem Kp.no (h : Kp No w w') (S : Nat → Prop) : Kp S w w' := h.mono fun _ _ s => s.elim
theorem Kp.then (h : Kp S w w') (k : Kp No w' w'') : Kp S w w'' := h.trans k fun _ _ s => s.elim
theorem Kp.drew (h : Kp S w w') : Kp S w w'.drew := ⟨h.os, h.tape, h.output, h.size, h.block⟩
theorem Kp.undrew (h : Kp S w.drew w') : Kp S w w' := ⟨h.os, h.tape, h.output, h.size, h.block⟩
theorem Kp.alloc (h : Kp S w w') (o : Obj) : Kp S w (w'.alloc o) :=
  h.trans (T := No) ⟨rfl, rfl, rfl, by simp, fun k hk _ => Below.heap_alloc _ _ _ hk⟩ fun _ _ s => s.elim
theorem Kp.setCell (h : Kp S w w') {p : Addr} (hp : p.block < w.heap.size → S p.block) (u : Value) : Kp S w (w'.setCell p u) :=
  h.trans (T := fun k => k = p.block) ⟨rfl, rfl, rfl, by simp [World.setCell], fun k _ hk => Below.heap_setCell _ _ _ _ hk⟩ fun i hi e => by subst e; exact hp hi
theorem Kp.setNew (h : Kp S w w') {p : Addr} (hp : w.heap.size ≤ p.block) (u : Value) : Kp S w (w'.setCell p u) := h.setCell (fun hlt => by omega) u
theorem Kp.grown {row : Option Nat} (h : Kp S w w') (hg : w'.grownBy w'' row) (hr : ∀ k, row = some k → k < w.heap.size → S k) : Kp S w w'' :=
  h.trans (T := fun k => some k = row) ⟨hg.os, hg.tape, hg.output, hg.size, fun k hk hn => hg.block k hk hn⟩ fun i hi e => hr i e.symm hi
theorem Kp.below (h : Kp No w w') : Below w.heap.size w w' := ⟨h.os, h.tape, h.output, h.size, fun k hk => h.block k hk (no_not k)⟩
theorem Kp.cell (h : Kp S w w') {b o : Nat} {v : Value} (hc : w.cell? ⟨b, o, none⟩ = some v) (hn : ¬ S b) : w'.cell? ⟨b, o, none⟩ = some v := by
  have hlt : b < w.heap.size := World.block_lt_of_cell? w ⟨b, o, none⟩ hc
  rw [World.cell?_of_block (w := w) (h.block b hlt hn)]; exact hc
theorem Kp.row (h : Kp S w w') {g : Nat} {o : Obj} (hc : w.heap[g]? = some o) (hn : ¬ S g) : w'.heap[g]? = some o := by
  rw [h.block g (Array.getElem?_eq_some_iff.1 hc).1 hn]; exact hc
theorem Kp.owns (h : Kp S w w') {base : Nat} {e : TypeId} {size : Nat} {v : Value} {n : Nat} {xs : List Value} (ho : w.ownsRow base e size v n xs) (hn : ∀ k, v.ownBlock = some k → ¬ S k) :
    w'.ownsRow base e size v n xs := by
  refine ⟨ho.1, ?_⟩
  rcases ho.2 with h2 | ⟨g, cap, cur, rfl, hb, hg, r⟩
  · exact .inl h2
  · exact .inr ⟨g, cap, cur, rfl, hb, h.row hg (hn g rfl), r⟩
end

/-! ### Cells that lie side by side -/
def At (w : World) (b o : Nat) (l : List Value) : Prop := ∀ j v, l[j]? = some v → w.cell? ⟨b, o + j, none⟩ = some v

theorem At.kp {S : Nat → Prop} {w w' : World} {b o : Nat} {l : List Value} (h : At w b o l) (k : Kp S w w') (hn : ¬ S b) : At w' b o l :=
  fun j v hv => k.cell (h j v hv) hn
theorem At.drew {w : World} {b o : Nat} {l : List Value} (h : At w b o l) : At w.drew b o l := h

theorem flat_get {α : Type} {f : α → List Value} {k : Nat} (hf : ∀ a, (f a).length = k) : ∀ (es : List α) (i j : Nat) (hi : i < es.length), j < k → (es.flatMap f)[i * k + j]? = (f es[i])[j]?
  | [], i, j, hi, _ => by simp at hi
  | a :: es, 0, j, _, hj => by simp [List.getElem?_append, hf, hj]
  | a :: es, i + 1, j, hi, hj => by
    rw [List.flatMap_cons, List.getElem?_append_right (by rw [hf, Nat.add_mul]; omega), hf]
    have e : (i + 1) * k + j - k = i * k + j := by rw [Nat.add_mul]; omega
    rw [e]
    simpa using flat_get hf es i j (by simpa using hi) hj
theorem flat_len {α : Type} {f : α → List Value} {k : Nat} (hf : ∀ a, (f a).length = k) (es : List α) : (es.flatMap f).length = es.length * k := by
  induction es with
  | nil => simp
  | cons a es ih => simp [hf, ih, Nat.add_mul]; omega
theorem flat_set {α : Type} {f : α → List Value} {k : Nat} (hf : ∀ a, (f a).length = k) : ∀ (es : List α) (i : Nat) (x : α), i < es.length →
    (es.flatMap f).take (i * k) ++ f x ++ (es.flatMap f).drop (i * k + k) = (es.set i x).flatMap f
  | [], i, _, hi => by simp at hi
  | a :: es, 0, x, _ => by simp [hf]
  | a :: es, i + 1, x, hi => by
    have ih := flat_set hf es i x (by simpa using hi)
    have e1 : (i + 1) * k = k + i * k := by rw [Nat.add_mul]; omega
    simp only [List.flatMap_cons, List.set_cons_succ]
    rw [← ih, List.take_append, List.drop_append, hf, e1]
    have e2 : k + i * k - k = i * k := by omega
    have e3 : k + i * k + k - k = i * k + k := by omega
    rw [e2, e3, List.take_of_length_le (by rw [hf]; omega), List.drop_of_length_le (by rw [hf]; omega)]
    simp
theorem flat_take {α : Type} {f : α → List Value} {k : Nat} (hf : ∀ a, (f a).length = k) (es : List α) (n : Nat) (hn : n ≤ es.length) : (es.flatMap f).take (n * k) = (es.take n).flatMap f := by
  have e : es.flatMap f = (es.take n).flatMap f ++ (es.drop n).flatMap f := by rw [← List.flatMap_append, List.take_append_drop]
  have hl : ((es.take n).flatMap f).length = n * k := by rw [flat_len hf, List.length_take, Nat.min_eq_left hn]
  rw [e, ← hl]
  exact List.take_left

/-- The slice 'v', over block b, reads as 'es'. -/
def Sl {α : Type} (f : α → List Value) (k : Nat) (w : World) (b : Nat) (v : Value) (es : List α) : Prop :=
  ∃ a c, v = .slice a es.length c ∧ ∀ i (h : i < es.length), ∃ o, a = some ⟨b, o, none⟩ ∧ At w b (o + i * k) (f es[i])
theorem Sl.kp {α : Type} {f : α → List Value} {k : Nat} {S : Nat → Prop} {w w' : World} {b : Nat} {v : Value} {es : List α} (h : Sl f k w b v es) (q : Kp S w w') (hn : ¬ S b) : Sl f k w' b v es := by
  obtain ⟨a, c, rfl, h⟩ := h
  exact ⟨a, c, rfl, fun i hi => let ⟨o, ha, he⟩ := h i hi; ⟨o, ha, he.kp q hn⟩⟩

/-! ### A row of the call's own: block g, capacity 'cap', 'es' its first elements -/
def Own {α : Type} (f : α → List Value) (k : Nat) (w : World) (t : TypeId) (g cap : Nat) (es : List α) : Prop :=
  w.ownsRow 0 t k (.slice (some ⟨g, 0, none⟩) es.length cap) es.length (es.flatMap f)

section
variable {α : Type} {f : α → List Value} {k : Nat} {w : World} {t : TypeId} {g cap : Nat} {es : List α}
theorem own_iff (hf : ∀ a, (f a).length = k) : Own f k w t g cap es ↔ ∃ cur, w.heap[g]? = some (.cells cur t (0, 0)) ∧ es.length ≤ cap ∧ cap ≤ maxLen ∧ cur.size = cap * k ∧ cur.toList.take (es.length * k) = es.flatMap f := by
  constructor
  · rintro ⟨_, h⟩
    rcases h with ⟨h, _⟩ | ⟨g', cap', cur, he, _, hg, h1, h2, h3, h4⟩
    · simp at h
    · simp only [Value.slice.injEq, Option.some.injEq, Addr.mk.injEq, and_true, true_and] at he
      obtain ⟨rfl, rfl⟩ := he
      exact ⟨cur, hg, h1, h2, h3, h4⟩
  · rintro ⟨cur, hg, h1, h2, h3, h4⟩
    exact ⟨flat_len hf es, .inr ⟨g, cap, cur, rfl, Nat.zero_le _, hg, h1, h2, h3, h4⟩⟩
theorem Own.kp {S : Nat → Prop} {w' : World} (h : Own f k w t g cap es) (q : Kp S w w') (hn : ¬ S g) : Own f k w' t g cap es :=
  q.owns h fun j hj => by simp [Value.ownBlock] at hj; subst hj; exact hn
theorem Own.lt (h : Own f k w t g cap es) : g < w.heap.size := (World.ownsRow.lt h g rfl).2
theorem Own.le (hf : ∀ a, (f a).length = k) (h : Own f k w t g cap es) : es.length ≤ cap := by
  obtain ⟨_, _, h, _⟩ := (own_iff hf).1 h; exact h
theorem Own.at (hf : ∀ a, (f a).length = k) (h : Own f k w t g cap es) {i : Nat} (hi : i < es.length) : At w g (i * k) (f es[i]) := by
  intro j v hv
  have hj : j < k := by rw [← hf es[i]]; exact (List.getElem?_eq_some_iff.1 hv).1
  have e : (es.flatMap f)[i * k + j]? = some v := by rw [flat_get hf es i j hi hj]; exact hv
  have := World.ownsRow.cells h (g := g) rfl (i * k + j) v e
  rwa [Addr.add_lit, Nat.zero_add] at this
theorem Own.sl (hf : ∀ a, (f a).length = k) (h : Own f k w t g cap es) : Sl f k w g (.slice (some ⟨g, 0, none⟩) es.length cap) es :=
  ⟨_, _, rfl, fun i hi => ⟨0, rfl, by rw [Nat.zero_add]; exact h.at hf hi⟩⟩
theorem Own.take (hf : ∀ a, (f a).length = k) (h : Own f k w t g cap es) {n : Nat} (hn : n ≤ es.length) : Own f k w t g cap (es.take n) := by
  obtain ⟨cur, hg, h1, h2, h3, h4⟩ := (own_iff hf).1 h
  have hl : (es.take n).length = n := by rw [List.length_take]; omega
  refine (own_iff hf).2 ⟨cur, hg, by omega, h2, h3, ?_⟩
  rw [hl, ← flat_take hf es n hn, ← h4, List.take_take]
  congr 1
  exact (Nat.min_eq_left (Nat.mul_le_mul_right k hn)).symm
end

/-! ### The laws of the walk -/
section
variable {α : Type} {f : α → List Value} {k : Nat} {P : Program} {ops : Array Oper} {rest : List Oper} {o : Oper} {a : Act} {w : World} {Q : Exit → Act → World → Prop}

/-- A struct is loaded. -/
theorem wpList_load_at (hgd : o.guard = none) (ty : TypeId) (x : Operand) (ho : o.op = .load ty x) (b off : Nat) (hx : a.eval x = .pointer (some ⟨b, off, none⟩)) (l : List Value) (hat : At w b off l)
    (d : TypeDesc) (hu : P.underlying ty = some d) (hd : (match d with | .struct _ | .array _ _ => true | _ => false) = true) (hi : (P.info? ty).map (·.size) = some l.length)
    (h : wpList P ops Q rest (a.put o.dst (.agg l.toArray)) w) : wpList P ops Q (o :: rest) a w := by
  refine wpList_plain hgd fun K hK => ?_
  have hl := run_loadCells_list (P := P) w ⟨b, off, none⟩ l (fun j v hv => by rw [Addr.add_lit]; exact hat j v hv)
  have hagg : (isAgg ty).run P w = .ok true w := by
    unfold isAgg
    rw [Sem.run_bind, run_underlying hu w]
    cases d <;> simp_all
  cases hq : P.info? ty with
  | none => simp [hq] at hi
  | some i =>
    have hs : i.size = l.length := by simpa [hq] using hi
    have hlv : (loadVar ty ⟨b, off, none⟩).run P w = .ok (.agg l.toArray) w := by
      simp [loadVar, Sem.run_bind, hagg, sizeOf, typeInfo, hq, hs, hl]
    unfold Oper.wp execOp
    simp only [ho, hx, Instr.loadAt, Instr.sureAddr, Sem.run_bind, Sem.run_pure, Result.andThen_ok, hlv]
    exact hK _ _ h

/-- An element is stored into a row of the call's own. -/
theorem wpList_store_own (hgd : o.guard = none) (ty : TypeId) (x y : Operand) (ho : o.op = .store ty x y) (hf : ∀ a, (f a).length = k)
    (t : TypeId) (g cap : Nat) (es : List α) (i : Nat) (e : α) (off : Nat) (hx : a.eval x = .pointer (some ⟨g, off, none⟩)) (hoff : off = i * k) (v : Value) (hy : a.eval y = v) (hv : v.cells.toList = f e)
    (h1 : ∀ u ∈ f e, u.oneCell' = true) (hi : (P.info? ty).map (·.size) = some k) (hown : Own f k w t g cap es) (hlt : i < es.length)
    (h : ∀ w', Own f k w' t g cap (es.set i e) → Kp (fun b => b = g) w w' → wpList P ops Q rest (a.put o.dst undef) w') : wpList P ops Q (o :: rest) a w := by
  refine wpList_plain hgd fun K hK => ?_
  subst hoff
  obtain ⟨cur, hg, c1, c2, c3, c4⟩ := (own_iff hf).1 hown
  have hik : i * k + k ≤ cur.size := by
    rw [c3, ← Nat.succ_mul]; exact Nat.mul_le_mul_right k (by omega)
  have hst := run_storeCells_at P g (i * k) t v.cells.toList 0 cur w hg (by rw [hv, hf]; omega) (by rw [hv]; exact h1)
  simp only [Nat.add_zero, hv, hf] at hst
  cases hq : P.info? ty with
  | none => simp [hq] at hi
  | some inf =>
    have hs : inf.size = k := by simpa [hq] using hi
    have hvs : v.cells.size = k := by rw [← Array.length_toList, hv, hf]
    have hrun : (storeVar ty ⟨g, i * k, none⟩ v).run P w = .ok () (w.setRow g (cur.toList.take (i * k) ++ f e ++ cur.toList.drop (i * k + k)).toArray) := by
      simp only [storeVar, Sem.run_bind, sizeOf, typeInfo, run_program, Result.andThen_ok, hq, Sem.run_pure, hs, hvs, ne_eq, not_true_eq_false, if_false]
      rw [hv]
      exact hst
    unfold Oper.wp execOp
    simp only [ho, hx, hy, Instr.storeAt, Instr.sureAddr, Sem.run_bind, Sem.run_pure, Result.andThen_ok, hrun]
    refine hK _ _ (h _ ?_ ?_)
    · refine (own_iff hf).2 ⟨_, setRow_heap w g cur _ t _ hg, by simpa using c1, c2, ?_, ?_⟩
      · simp [hf]; omega
      · rw [List.length_set, ← flat_set hf es i e hlt, ← c4]
        have hle : i * k + k ≤ es.length * k := by rw [← Nat.succ_mul]; exact Nat.mul_le_mul_right k (by omega)
        have hlc : es.length * k ≤ cur.toList.length := by rw [Array.length_toList (xs := cur), c3]; exact Nat.mul_le_mul_right k c1
        simp only [List.take_append, List.take_take, List.length_take, List.length_append, hf, List.drop_take]
        have m1 : min (i * k) cur.toList.length = i * k := by omega
        rw [m1]
        have e1 : min (es.length * k) (i * k) = i * k := by omega
        have e2 : min (i * k) (es.length * k) = i * k := by omega
        rw [e1, e2, List.take_of_length_le (l := f e) (by rw [hf]; omega)]
    · refine ⟨rfl, rfl, rfl, by simp, fun j _ hj => setRow_other w g j _ hj⟩
end
end Go.Proofs.Qxb6003663a
