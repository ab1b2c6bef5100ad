/-
  copy(s[j:], s[j+1:]) in a row of the call's own.
-/
import Derived.Test.Qxb6003663aGen3
namespace Go.Proofs.Qxb6003663a
open Go.RowKit

section
variable {α : Type} {f : α → List Value} {k : Nat} {P : Program} {w : World} {ops : Array Oper} {rest : List Oper} {o : Oper} {a : Act} {Q : Exit → Act → World → Prop}

theorem flat_drop (hf : ∀ a, (f a).length = k) (es : List α) (n : Nat) (hn : n ≤ es.length) : (es.flatMap f).drop (n * k) = (es.drop n).flatMap f := by
  have e : es.flatMap f = (es.take n).flatMap f ++ (es.drop n).flatMap f := by rw [← List.flatMap_append, List.take_append_drop]
  have hl : ((es.take n).flatMap f).length = n * k := by rw [flat_len hf, List.length_take, Nat.min_eq_left hn]
  rw [e, ← hl]
  exact List.drop_left

theorem wpList_copy_shift (hgd : o.guard = none) (d s : Operand) (dT sT : TypeId) (ho : o.op = .call { callee := .builtin .copy, args := #[d, s], argTypes := #[dT, sT] })
    (hf : ∀ a, (f a).length = k) (h1 : ∀ a, ∀ u ∈ f a, u.oneCell' = true) (e : TypeId) (ht : P.underlying dT = some (.slice e)) (hs : (P.info? e).map (·.size) = some k)
    (g j cap : Nat) (es : List α) (hj : j < es.length) (hown : Own f k w e g cap es) (off dLen dCap : Nat) (hd : a.eval d = .slice (some ⟨g, off, none⟩) dLen dCap) (hoff : off = j * k) (hdl : dLen = es.length - j)
    (so : Option Addr) (sLen sCap : Nat) (hv : a.eval s = .slice so sLen sCap) (hsl : sLen = es.length - (j + 1)) (hso : 0 < sLen → so = some ⟨g, (j + 1) * k, none⟩)
    (h : ∀ w', Own f k w' e g cap (es.eraseIdx j ++ [es[es.length - 1]]) → Kp (fun i => i = g) w w' → wpList P ops Q rest (a.put o.dst (.int .i64 ((es.length - (j + 1) : Nat) : Int))) w') : wpList P ops Q (o :: rest) a w := by
  refine wpList_plain hgd fun K hK => ?_
  subst hoff
  obtain ⟨cur, hg, c1, c2, c3, c4⟩ := (own_iff hf).1 hown
  have hcl : ((es.drop (j + 1)).flatMap f).length = (es.length - (j + 1)) * k := by rw [flat_len hf, List.length_drop]
  have hmin : Nat.min sLen dLen = es.length - (j + 1) := by rw [hsl, hdl]; exact Nat.min_eq_left (by omega)
  have hjk : j * k + (es.length - (j + 1)) * k = (es.length - 1) * k := by rw [← Nat.add_mul]; congr 1; omega
  have hlast : (es.length - 1) * k + k = es.length * k := by rw [← Nat.succ_mul]; congr 1; omega
  have hcs : es.length * k ≤ cur.size := by rw [c3]; exact Nat.mul_le_mul_right k c1
  have hr := run_copy_cells (P := P) (k := k) w dT sT o.type e g (j * k) dLen dCap so sLen sCap cur e ((es.drop (j + 1)).flatMap f) ht hs hg (by rw [hcl, hmin]) ?_ ?_ ?_ ?_
  · rw [hmin] at hr
    unfold Oper.wp execOp
    simp only [ho, resolve, invoke, builtin, Sem.run_bind, Sem.run_pure, Result.andThen_ok, List.map_toArray, List.map_cons, List.map_nil, hd, hv, hr]
    refine hK _ _ (h _ ?_ ⟨rfl, rfl, rfl, by simp, fun i _ hi => setRow_other w g i _ hi⟩)
    have hel : (es.eraseIdx j ++ [es[es.length - 1]]).length = es.length := by rw [List.length_append, List.length_eraseIdx, if_pos hj]; simp; omega
    refine (own_iff hf).2 ⟨_, setRow_heap w g cur _ e _ hg, by rw [hel]; exact c1, c2, ?_, ?_⟩
    · simp only [List.size_toArray, List.length_append, List.length_take, List.length_drop, Array.length_toList, hcl]
      omega
    · rw [hel, List.eraseIdx_eq_take_drop_succ, hcl, hjk]
      have e1 : cur.toList.take (j * k) = (es.take j).flatMap f := by
        rw [← flat_take hf es j (by omega), ← c4, List.take_take]
        congr 1
        exact (Nat.min_eq_left (Nat.mul_le_mul_right k (by omega))).symm
      have e2 : (cur.toList.drop ((es.length - 1) * k)).take k = f es[es.length - 1] := by
        have e3 : (cur.toList.take (es.length * k)).drop ((es.length - 1) * k) = (es.drop (es.length - 1)).flatMap f := by rw [c4, flat_drop hf es _ (by omega)]
        rw [List.drop_take] at e3
        have e4 : es.length * k - (es.length - 1) * k = k := by omega
        rw [e4] at e3
        rw [e3, List.drop_eq_getElem_cons (by omega)]
        have e5 : es.drop (es.length - 1 + 1) = [] := List.drop_eq_nil_of_le (by omega)
        rw [e5]
        simp
      rw [e1]
      have hA : ((es.take j).flatMap f ++ (es.drop (j + 1)).flatMap f).length = (es.length - 1) * k := by
        rw [List.length_append, flat_len hf, hcl, List.length_take, Nat.min_eq_left (by omega)]; exact hjk
      rw [List.take_append, hA, List.take_of_length_le (by rw [hA]; omega)]
      have e6 : es.length * k - (es.length - 1) * k = k := by omega
      rw [e6, e2]
      simp
  · intro ad had i u hu
    have hi : i < (es.length - (j + 1)) * k := by rw [← hcl]; exact (List.getElem?_eq_some_iff.1 hu).1
    have hpos : 0 < sLen := by
      rw [hsl]
      rcases Nat.eq_zero_or_pos (es.length - (j + 1)) with h0 | h0
      · rw [h0] at hi; simp at hi
      · exact h0
    rw [hso hpos] at had
    obtain rfl := Option.some.inj had
    rw [Addr.add_lit]
    have e1 : (es.flatMap f)[(j + 1) * k + i]? = some u := by
      rw [← List.getElem?_drop, flat_drop hf es (j + 1) (by omega)]; exact hu
    have := World.ownsRow.cells hown (g := g) rfl ((j + 1) * k + i) u e1
    rwa [Addr.add_lit, Nat.zero_add] at this
  · intro h0
    rcases Nat.eq_zero_or_pos sLen with h | h
    · exact h
    · rw [hso h] at h0; cases h0
  · rw [hcl, hjk]; omega
  · intro u hu
    obtain ⟨x, _, hx⟩ := List.mem_flatMap.1 hu
    exact h1 x u hx
end
end Go.Proofs.Qxb6003663a
