/-
  Plain laws of the search.
-/
import Derived.Test.Qxb6003663aPlain
namespace Go.Proofs.Qxb6003663a

theorem Dfss.append {adj : Int → List Int} : ∀ {as bs : List Int} {s t u : St}, Dfss adj as s t → Dfss adj bs t u → Dfss adj (as ++ bs) s u := by
  intro as
  induction as with
  | nil => intro bs s t u h k; cases h; exact k
  | cons a as ih =>
    intro bs s t u h k
    cases h with
    | skip h1 h2 => exact .skip h1 (ih h2 k)
    | take h1 h2 h3 => exact .take h1 h2 (ih h3 k)

def St.zeros (s : St) : Nat := s.left.count 0

theorem count_set_le (l : List Int) (i : Nat) (x : Int) (hx : x ≠ 0) : (l.set i x).count 0 ≤ l.count 0 := by
  induction l generalizing i with
  | nil => simp
  | cons a l ih =>
    cases i with
    | zero =>
      have hx' : ¬ (x == 0) = true := by simpa using hx
      simp only [List.set_cons_zero, List.count_cons, hx', Bool.false_eq_true, if_false]
      omega
    | succ i => simp only [List.set_cons_succ, List.count_cons]; have := ih i; omega
theorem count_set_lt (l : List Int) (i : Nat) (x : Int) (hx : x ≠ 0) (hi : i < l.length) (h0 : l[i] = 0) : (l.set i x).count 0 + 1 = l.count 0 := by
  induction l generalizing i with
  | nil => simp at hi
  | cons a l ih =>
    cases i with
    | zero =>
      have hx' : ¬ (x == 0) = true := by simpa using hx
      simp only [List.getElem_cons_zero] at h0
      subst h0
      simp [List.set_cons_zero, List.count_cons, hx']
    | succ i =>
      simp only [List.set_cons_succ, List.count_cons]
      have := ih i (by simpa using hi) (by simpa using h0)
      omega

theorem St.leave_zeros (s : St) (v : Int) : (s.leave v).zeros ≤ s.zeros := count_set_le _ _ _ (by omega)
theorem St.enter_zeros (s : St) (v : Int) (hv : v.toNat < s.left.length) (h0 : s.at v = 0) : (s.enter v).zeros + 1 = s.zeros := by
  refine count_set_lt _ _ _ (by omega) hv ?_
  rw [St.at, List.getD_eq_getElem?_getD, List.getElem?_eq_getElem hv] at h0
  exact h0
theorem St.at_get (s : St) (v : Int) (hv : v.toNat < s.left.length) : s.at v = s.left[v.toNat] := by
  rw [St.at, List.getD_eq_getElem?_getD, List.getElem?_eq_getElem hv]; rfl

mutual
theorem Dfs.len {adj : Int → List Int} {v : Int} {s t : St} : Dfs adj v s t → t.left.length = s.left.length
  | .mk h => by have := Dfss.len h; simpa [St.leave, St.enter] using this
theorem Dfss.len {adj : Int → List Int} {ws : List Int} {s t : St} : Dfss adj ws s t → t.left.length = s.left.length
  | .nil => rfl
  | .skip _ h => Dfss.len h
  | .take _ h1 h2 => (Dfss.len h2).trans (Dfs.len h1)
end

/-- The graph's lists lie within n. -/
def Within (adj : Int → List Int) (n : Nat) : Prop := ∀ v, ∀ x ∈ adj v, 0 ≤ x ∧ x < n

mutual
theorem Dfs.sum {adj : Int → List Int} {n : Nat} (hw : Within adj n) {v : Int} {s t : St} (hn : s.left.length = n) (hv : v.toNat < n) (h0 : s.at v = 0) : Dfs adj v s t → t.order.length + t.zeros ≤ s.order.length + s.zeros
  | .mk (t := t1) h => by
    have h1 := Dfss.sum hw (by simpa [St.enter] using hn) (fun x hx => hw v x hx) h
    have h2 := St.leave_zeros t1 v
    have h3 := St.enter_zeros s v (by omega) h0
    have h4 : (t1.leave v).order.length = t1.order.length + 1 := by simp [St.leave]
    have h5 : (s.enter v).order = s.order := rfl
    rw [h5] at h1
    omega
theorem Dfss.sum {adj : Int → List Int} {n : Nat} (hw : Within adj n) {ws : List Int} {s t : St} (hn : s.left.length = n) (hws : ∀ x ∈ ws, 0 ≤ x ∧ x < n) : Dfss adj ws s t → t.order.length + t.zeros ≤ s.order.length + s.zeros
  | .nil => Nat.le_refl _
  | .skip _ h => Dfss.sum hw hn (fun x hx => hws x (List.mem_cons_of_mem _ hx)) h
  | .take (w := w) h0 h1 h2 => by
    have a1 := hws w List.mem_cons_self
    have e1 := Dfs.sum hw hn (by omega) h0 h1
    have e2 := Dfss.sum hw (by rw [Dfs.len h1]; exact hn) (fun x hx => hws x (List.mem_cons_of_mem _ hx)) h2
    omega
end
mutual
theorem Dfs.mono {adj : Int → List Int} {v : Int} {s t : St} : Dfs adj v s t → t.zeros ≤ s.zeros
  | .mk (t := t1) h => by
    have h1 := Dfss.mono h
    have h2 := St.leave_zeros t1 v
    have h3 : (s.enter v).zeros ≤ s.zeros := count_set_le _ _ _ (by omega)
    omega
theorem Dfss.mono {adj : Int → List Int} {ws : List Int} {s t : St} : Dfss adj ws s t → t.zeros ≤ s.zeros
  | .nil => Nat.le_refl _
  | .skip _ h => Dfss.mono h
  | .take _ h1 h2 => by have e1 := Dfs.mono h1; have e2 := Dfss.mono h2; omega
end

/-- The lists in the direction asked for. -/
def adjOf (es : List (List Int)) (back : Bool) (v : Int) : List Int := if back then (es.getD v.toNat []).reverse else es.getD v.toNat []
theorem adjOf_len (es : List (List Int)) (back : Bool) (v : Int) : (adjOf es back v).length = (es.getD v.toNat []).length := by
  unfold adjOf; cases back <;> simp
theorem adjOf_within {es : List (List Int)} (h : ∀ l ∈ es, ∀ x ∈ l, 0 ≤ x ∧ x < (es.length : Int)) (back : Bool) : Within (adjOf es back) es.length := by
  intro v x hx
  have hx' : x ∈ es.getD v.toNat [] := by unfold adjOf at hx; cases back <;> simpa using hx
  rw [List.getD_eq_getElem?_getD] at hx'
  cases hq : es[v.toNat]? with
  | none => rw [hq] at hx'; simp at hx'
  | some l => rw [hq] at hx'; exact h l (List.mem_of_getElem? hq) x hx'
end Go.Proofs.Qxb6003663a
