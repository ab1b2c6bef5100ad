/-
  What the search needs: one cell of an element stored; the measure read off the memory.
-/
import Derived.Test.Qxb6003663aDfsW
import Derived.Test.Qxb6003663aPlain3
namespace Go.Proofs.Qxb6003663a
open Go.RowKit

section
variable {α : Type} {f : α → List Value} {k : Nat} {P : Program} {ops : Array Oper} {rest : List Oper} {o : Oper} {a : Act} {w : World} {Q : Exit → Act → World → Prop}

/-- One cell of an element is stored into a row of the call's own. -/
theorem wpList_store_cell (hgd : o.guard = none) (ty : TypeId) (x y : Operand) (ho : o.op = .store ty x y) (hf : ∀ a, (f a).length = k)
    (t : TypeId) (g cap : Nat) (es es' : List α) (off : Nat) (hx : a.eval x = .pointer (some ⟨g, off, none⟩)) (v : Value) (hy : a.eval y = v) (hv : v.cells.toList = [v])
    (h1 : v.oneCell' = true) (hi : (P.info? ty).map (·.size) = some 1) (hown : Own f k w t g cap es) (hlt : off < es.length * k) (hl : es'.length = es.length) (hes : es'.flatMap f = (es.flatMap f).set off v)
    (h : ∀ w', Own f k w' t g cap es' → Kp (fun b => b = g) w w' → wpList P ops Q rest (a.put o.dst undef) w') : wpList P ops Q (o :: rest) a w := by
  refine wpList_plain hgd fun K hK => ?_
  obtain ⟨cur, hg, c1, c2, c3, c4⟩ := (own_iff hf).1 hown
  have hle : es.length * k ≤ cap * k := Nat.mul_le_mul_right k c1
  have hik : off + 1 ≤ cur.size := by rw [c3]; omega
  have hst := run_storeCells_at P g off t v.cells.toList 0 cur w hg (by rw [hv]; simp; omega) (by rw [hv]; intro u hu; rw [List.mem_singleton] at hu; subst hu; exact h1)
  simp only [Nat.add_zero, hv, List.length_singleton] at hst
  cases hq : P.info? ty with
  | none => simp [hq] at hi
  | some inf =>
    have hs : inf.size = 1 := by simpa [hq] using hi
    have hvs : v.cells.size = 1 := by rw [← Array.length_toList, hv]; rfl
    have hrun : (storeVar ty ⟨g, off, none⟩ v).run P w = .ok () (w.setRow g (cur.toList.take off ++ [v] ++ cur.toList.drop (off + 1)).toArray) := by
      simp only [storeVar, Sem.run_bind, sizeOf, typeInfo, run_program, Result.andThen_ok, hq, Sem.run_pure, hs, hvs, ne_eq, not_true_eq_false, if_false]
      rw [hv]
      exact hst
    unfold Oper.wp execOp
    simp only [ho, hx, hy, Instr.storeAt, Instr.sureAddr, Sem.run_bind, Sem.run_pure, Result.andThen_ok, hrun]
    have hset : cur.toList.take off ++ [v] ++ cur.toList.drop (off + 1) = cur.toList.set off v := by
      rw [List.set_eq_take_append_cons_drop, if_pos (by rw [Array.length_toList]; omega)]
      simp
    refine hK _ _ (h _ ?_ ?_)
    · refine (own_iff hf).2 ⟨_, setRow_heap w g cur _ t _ hg, by omega, c2, ?_, ?_⟩
      · rw [hset]; simp; exact c3
      · rw [hset, hl, hes, ← c4, List.take_set]
    · refine ⟨rfl, rfl, rfl, by simp, fun j _ hj => setRow_other w g j _ hj⟩
end

theorem cc_set (q : List (Int × Nat)) (v : Int) (t u : Nat) : ((q ++ [(v, u)]).flatMap cc) = ((q ++ [(v, t)]).flatMap cc).set (q.length * 2 + 1) (.int .i64 u) := by
  have hl := flat_len cc_len q
  simp only [List.flatMap_append, List.flatMap_cons, List.flatMap_nil, List.append_nil]
  rw [List.set_append_right _ _ (by omega), hl]
  have e : q.length * 2 + 1 - q.length * 2 = 1 := by omega
  rw [e]
  rfl

/-- A row of an order, or nil, as a slice. -/
theorem Orw.sl {w : World} {t : TypeId} {ov : Value} {order : List Int} {A : Nat → Prop} (h : Orw w t ov order A) : ∃ b, Sl ic 1 w b ov order ∧ (0 < order.length → ov.ownBlock = some b) := by
  rcases h.owns.2 with ⟨rfl, h0⟩ | ⟨g, cap, cur, rfl, hb, hg, c1, c2, c3, c4⟩
  · have : order = [] := List.eq_nil_of_length_eq_zero h0
    subst this
    exact ⟨0, sl_nil, fun h => by simp at h⟩
  · exact ⟨g, Own.sl ic_len ((own_iff ic_len).2 ⟨cur, hg, c1, c2, c3, c4⟩), fun _ => rfl⟩

/-! ### The measure, read off the memory -/
def rdI (w : World) (b o : Nat) : Int := match w.cell? ⟨b, o, none⟩ with | some (.int _ x) => x | _ => 0
def rdP (w : World) (bb : Nat) : Nat × Nat := match w.cell? ⟨bb, 7, none⟩ with | some (.slice (some a) n _) => (a.block, n) | _ => (0, 0)
def meas (deg : Nat → Nat) (n gl bb : Nat) (w : World) : Nat :=
  ((List.range n).map (fun i => if rdI w gl i = 0 then deg i + 2 else 0)).sum + ((List.range (rdP w bb).2).map (fun j => deg (rdI w (rdP w bb).1 (j * 2)).toNat - (rdI w (rdP w bb).1 (j * 2 + 1)).toNat + 1)).sum

theorem meas_eq (deg : Nat → Nat) {w : World} {n gl bb gk cap : Nat} {f : Fx} {wk : Int} {ov : Value} {left : List Int} {p : List (Int × Nat)} (hl : left.length = n) (h1 : Own ic 1 w 21 gl n left) (h2 : Own cc 2 w 65 gk cap p)
    (h3 : Bx w bb f wk ov (.slice (some ⟨gk, 0, none⟩) p.length cap)) : meas deg n gl bb w = zsum deg n left + psum deg p := by
  have e3 : rdP w bb = (gk, p.length) := by unfold rdP; rw [h3.c7]
  unfold meas
  rw [e3]
  congr 1
  · unfold zsum
    congr 1
    refine List.map_congr_left (fun i hi => ?_)
    have hi' : i < left.length := by rw [hl]; exact List.mem_range.1 hi
    have := h1.cell (p := fun x => .int .i32 x) (fun _ => rfl) hi'
    have e : rdI w gl i = left.getD i 0 := by
      unfold rdI; rw [this, List.getD_eq_getElem?_getD, List.getElem?_eq_getElem hi']; rfl
    rw [e]
  · unfold psum
    congr 1
    apply List.ext_getElem
    · simp
    · intro j h4 h5
      have hj : j < p.length := by simpa using h5
      have h6 := h2.at cc_len hj
      have h7 := h6 0 _ rfl
      have h8 := h6 1 _ rfl
      simp only [List.getElem_map, List.getElem_range]
      have e1 : rdI w gk (j * 2) = p[j].1 := by unfold rdI; rw [show j * 2 = j * 2 + 0 from rfl, h7]
      have e2 : rdI w gk (j * 2 + 1) = p[j].2 := by unfold rdI; rw [h8]
      rw [e1, e2]
      simp
end Go.Proofs.Qxb6003663a
