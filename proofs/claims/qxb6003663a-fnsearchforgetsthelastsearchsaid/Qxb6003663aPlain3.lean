/-
  The stack machine against the rules, and its measure.
-/
import Derived.Test.Qxb6003663aPlain2
namespace Go.Proofs.Qxb6003663a

/-- The stack, top first, runs to its end. -/
def Fin2 (adj : Int → List Int) : List (Int × Nat) → St → St → Prop
  | [], s, s' => s = s'
  | (v, t) :: rest, s, s' => ∃ s1, Dfss adj ((adj v).drop t) s s1 ∧ Fin2 adj rest (s1.leave v) s'

/-- The stack, bottom first. -/
def Done (adj : Int → List Int) (p : List (Int × Nat)) (s s' : St) : Prop := Fin2 adj p.reverse s s'

theorem Done.start {adj : Int → List Int} {r : Int} {s0 s' : St} (h : Done adj [(r, 0)] (s0.enter r) s') : Dfs adj r s0 s' := by
  obtain ⟨s1, h1, h2⟩ := h
  have h2 : s1.leave r = s' := h2
  subst h2
  rw [List.drop_zero] at h1
  exact .mk h1
theorem Done.skip {adj : Int → List Int} {q : List (Int × Nat)} {v w : Int} {t : Nat} {s s' : St} (hw : (adj v)[t]? = some w) (h0 : s.at w ≠ 0) (h : Done adj (q ++ [(v, t + 1)]) s s') : Done adj (q ++ [(v, t)]) s s' := by
  unfold Done at *
  rw [List.reverse_append] at *
  obtain ⟨s1, h1, h2⟩ := h
  obtain ⟨hl, rfl⟩ := List.getElem?_eq_some_iff.1 hw
  exact ⟨s1, by rw [List.drop_eq_getElem_cons hl]; exact .skip h0 h1, h2⟩
theorem Done.take {adj : Int → List Int} {q : List (Int × Nat)} {v w : Int} {t : Nat} {s s' : St} (hw : (adj v)[t]? = some w) (h0 : s.at w = 0) (h : Done adj (q ++ [(v, t + 1)] ++ [(w, 0)]) (s.enter w) s') : Done adj (q ++ [(v, t)]) s s' := by
  unfold Done at *
  rw [List.reverse_append, List.reverse_append] at h
  rw [List.reverse_append]
  obtain ⟨s1, h1, s2, h2, h3⟩ := h
  obtain ⟨hl, rfl⟩ := List.getElem?_eq_some_iff.1 hw
  rw [List.drop_zero] at h1
  exact ⟨s2, by rw [List.drop_eq_getElem_cons hl]; exact .take h0 (.mk h1) h2, h3⟩
theorem Done.pop {adj : Int → List Int} {q : List (Int × Nat)} {v : Int} {t : Nat} {s s' : St} (ht : (adj v).length ≤ t) (h : Done adj q (s.leave v) s') : Done adj (q ++ [(v, t)]) s s' := by
  unfold Done at *
  rw [List.reverse_append]
  exact ⟨s, by rw [List.drop_eq_nil_of_le ht]; exact .nil, h⟩
theorem Done.nil {adj : Int → List Int} (s : St) : Done adj [] s s := rfl

/-! ### The measure -/
def zsum (deg : Nat → Nat) (n : Nat) (left : List Int) : Nat := ((List.range n).map (fun i => if left.getD i 0 = 0 then deg i + 2 else 0)).sum
def psum (deg : Nat → Nat) (p : List (Int × Nat)) : Nat := (p.map (fun q => deg q.1.toNat - q.2 + 1)).sum

theorem sum_le (n : Nat) (f g : Nat → Nat) (h : ∀ i, i < n → g i ≤ f i) : ((List.range n).map g).sum ≤ ((List.range n).map f).sum := by
  induction n with
  | zero => simp
  | succ n ih =>
    rw [List.range_succ, List.map_append, List.map_append, List.sum_append, List.sum_append]
    have h1 := ih (fun i hi => h i (by omega))
    have h2 := h n (by omega)
    simp only [List.map_cons, List.map_nil, List.sum_cons, List.sum_nil]
    omega
theorem sum_less (n : Nat) (f g : Nat → Nat) (w c : Nat) (hw : w < n) (h : ∀ i, i ≠ w → g i ≤ f i) (hc : g w + c ≤ f w) : ((List.range n).map g).sum + c ≤ ((List.range n).map f).sum := by
  induction n with
  | zero => omega
  | succ n ih =>
    rw [List.range_succ, List.map_append, List.map_append, List.sum_append, List.sum_append]
    simp only [List.map_cons, List.map_nil, List.sum_cons, List.sum_nil]
    by_cases e : w = n
    · subst e
      have := sum_le w f g (fun i hi => h i (by omega))
      omega
    · have h1 := ih (by omega)
      have h2 := h n (fun e2 => e e2.symm)
      omega
theorem getD_set (l : List Int) (i j : Nat) (x : Int) : (l.set i x).getD j 0 = if i = j ∧ i < l.length then x else l.getD j 0 := by
  rw [List.getD_eq_getElem?_getD, List.getD_eq_getElem?_getD, List.getElem?_set]
  by_cases e : i = j
  · subst e
    by_cases h : i < l.length
    · simp [h]
    · simp [h]
  · simp [e]
theorem zsum_enter (deg : Nat → Nat) (n : Nat) (left : List Int) (w : Nat) (hw : w < n) (hl : left.length = n) (h0 : left.getD w 0 = 0) : zsum deg n (left.set w (-1)) + (deg w + 2) ≤ zsum deg n left := by
  refine sum_less n _ _ w (deg w + 2) hw (fun i hi => ?_) ?_
  · have e : (left.set w (-1)).getD i 0 = left.getD i 0 := by rw [getD_set, if_neg (fun e => hi e.1.symm)]
    simp only [e]
    exact Nat.le_refl _
  · have e : (left.set w (-1)).getD w 0 = -1 := by rw [getD_set, if_pos ⟨rfl, by omega⟩]
    simp only [e, h0]
    simp
theorem zsum_leave (deg : Nat → Nat) (n : Nat) (left : List Int) (w : Nat) (x : Int) (hx : x ≠ 0) : zsum deg n (left.set w x) ≤ zsum deg n left := by
  refine sum_le n _ _ (fun i _ => ?_)
  by_cases h : w = i ∧ w < left.length
  · have e : (left.set w x).getD i 0 = x := by rw [getD_set, if_pos h]
    simp only [e, if_neg hx]
    omega
  · have e : (left.set w x).getD i 0 = left.getD i 0 := by rw [getD_set, if_neg h]
    simp only [e]
    exact Nat.le_refl _
theorem psum_append (deg : Nat → Nat) (p q : List (Int × Nat)) : psum deg (p ++ q) = psum deg p + psum deg q := by simp [psum]
theorem psum_one (deg : Nat → Nat) (c : Int × Nat) : psum deg [c] = deg c.1.toNat - c.2 + 1 := by simp [psum]

/-- All zeros, no order. -/
def St.zero (n : Nat) : St := ⟨List.replicate n 0, []⟩
theorem St.zero_zeros (n : Nat) : (St.zero n).zeros = n := by simp [St.zeros, St.zero]
theorem St.zero_at (n : Nat) (v : Int) : (St.zero n).at v = 0 := by
  simp only [St.at, St.zero, List.getD_eq_getElem?_getD]
  by_cases h : v.toNat < n
  · simp [h]
  · simp [h]
end Go.Proofs.Qxb6003663a
