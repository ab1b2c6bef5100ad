/-
  What a whole search leaves: who is visited, how many, in which order.
-/
import Derived.Test.Qxb6003663aPlain3
namespace Go.Proofs.Qxb6003663a

theorem St.enter_at (s : St) (v x : Int) : (s.enter v).at x = if v.toNat = x.toNat ∧ v.toNat < s.left.length then -1 else s.at x := by
  simp only [St.at, St.enter, getD_set]
theorem St.leave_at (s : St) (v x : Int) : (s.leave v).at x = if v.toNat = x.toNat ∧ v.toNat < s.left.length then (s.order.length : Int) + 1 else s.at x := by
  simp only [St.at, St.leave, getD_set]

/-- What was seen stays as it was; what was not is not below zero. -/
def Stays (s t : St) : Prop := ∀ x : Int, (s.at x ≠ 0 → t.at x = s.at x) ∧ (s.at x = 0 → 0 ≤ t.at x)
theorem Stays.refl (s : St) : Stays s s := fun x => ⟨fun _ => rfl, fun h => by omega⟩
theorem Stays.trans {s t u : St} (h : Stays s t) (k : Stays t u) : Stays s u := fun x =>
  ⟨fun h0 => by rw [(k x).1 (by rw [(h x).1 h0]; exact h0), (h x).1 h0],
   fun h0 => by
    by_cases h1 : t.at x = 0
    · exact (k x).2 h1
    · rw [(k x).1 h1]; exact (h x).2 h0⟩

mutual
theorem Dfs.stays {adj : Int → List Int} {n : Nat} (hw : Within adj n) {v : Int} {s t : St} (hn : s.left.length = n) (h0 : 0 ≤ v) (hv : v < (n : Int)) (hz : s.at v = 0) : Dfs adj v s t → Stays s t ∧ 0 < t.at v
  | .mk (t := t1) h => by
    have hl := h.len
    have hl' : (s.enter v).left.length = s.left.length := by simp [St.enter]
    have h1 := Dfss.stays hw (by rw [hl']; exact hn) (hw v) h
    have e1 : (t1.leave v).at v = (t1.order.length : Int) + 1 := by rw [St.leave_at, if_pos ⟨rfl, by omega⟩]
    refine ⟨fun x => ?_, by omega⟩
    by_cases e : v.toNat = x.toNat
    · have ex : (t1.leave v).at x = (t1.order.length : Int) + 1 := by rw [St.leave_at, if_pos ⟨e, by omega⟩]
      have es : s.at x = s.at v := by simp only [St.at, e]
      exact ⟨fun h => absurd (by omega) h, fun _ => by omega⟩
    · have ex : (t1.leave v).at x = t1.at x := by rw [St.leave_at, if_neg (fun h => e h.1)]
      have es : (s.enter v).at x = s.at x := by rw [St.enter_at, if_neg (fun h => e h.1)]
      rw [ex]
      have := h1 x
      rw [es] at this
      exact this
theorem Dfss.stays {adj : Int → List Int} {n : Nat} (hw : Within adj n) {ws : List Int} {s t : St} (hn : s.left.length = n) (hws : ∀ x ∈ ws, 0 ≤ x ∧ x < (n : Int)) : Dfss adj ws s t → Stays s t
  | .nil => Stays.refl s
  | .skip _ h => Dfss.stays hw hn (fun x hx => hws x (List.mem_cons_of_mem _ hx)) h
  | .take (w := w) hz h1 h2 => by
    have a1 := hws w List.mem_cons_self
    exact (Dfs.stays hw hn a1.1 a1.2 hz h1).1.trans (Dfss.stays hw (by rw [Dfs.len h1]; exact hn) (fun x hx => hws x (List.mem_cons_of_mem _ hx)) h2)
end

mutual
/-- As many are left as were not seen before and are now. -/
theorem Dfs.sumEq {adj : Int → List Int} {n : Nat} (hw : Within adj n) {v : Int} {s t : St} (hn : s.left.length = n) (h0 : 0 ≤ v) (hv : v < (n : Int)) (hz : s.at v = 0) : Dfs adj v s t → t.order.length + t.zeros = s.order.length + s.zeros
  | .mk (t := t1) h => by
    have hl := h.len
    have hl' : (s.enter v).left.length = s.left.length := by simp [St.enter]
    have h1 := Dfss.sumEq hw (by rw [hl']; exact hn) (hw v) h
    have hs := Dfss.stays hw (by rw [hl']; exact hn) (hw v) h v
    have ev : (s.enter v).at v = -1 := by rw [St.enter_at, if_pos ⟨rfl, by omega⟩]
    have et : t1.at v = -1 := by rw [hs.1 (by omega), ev]
    have h2 : (t1.leave v).zeros = t1.zeros := by
      have hvl : v.toNat < t1.left.length := by omega
      have hne : t1.left[v.toNat] ≠ 0 := by rw [← St.at_get t1 v hvl, et]; omega
      show ((t1.left.set v.toNat _).count 0) = t1.left.count 0
      rw [List.count_set hvl]
      have e1 : (t1.left[v.toNat] == 0) = false := by simpa using hne
      have e2 : (((t1.order.length : Int) + 1) == 0) = false := by
        have : ((t1.order.length : Int) + 1) ≠ 0 := by omega
        simpa using this
      simp [e1, e2]
    have h3 := St.enter_zeros s v (by omega) hz
    have h4 : (t1.leave v).order.length = t1.order.length + 1 := by simp [St.leave]
    have h5 : (s.enter v).order = s.order := rfl
    rw [h5] at h1
    omega
theorem Dfss.sumEq {adj : Int → List Int} {n : Nat} (hw : Within adj n) {ws : List Int} {s t : St} (hn : s.left.length = n) (hws : ∀ x ∈ ws, 0 ≤ x ∧ x < (n : Int)) : Dfss adj ws s t → t.order.length + t.zeros = s.order.length + s.zeros
  | .nil => rfl
  | .skip _ h => Dfss.sumEq hw hn (fun x hx => hws x (List.mem_cons_of_mem _ hx)) h
  | .take (w := w) hz h1 h2 => by
    have a1 := hws w List.mem_cons_self
    have e1 := Dfs.sumEq hw hn a1.1 a1.2 hz h1
    have e2 := Dfss.sumEq hw (by rw [Dfs.len h1]; exact hn) (fun x hx => hws x (List.mem_cons_of_mem _ hx)) h2
    omega
end

mutual
/-- Whoever is visited has what his list hands on. -/
theorem Dfs.sound {adj : Int → List Int} {n : Nat} (hw : Within adj n) (Q : Int → Prop) (hQ : ∀ u, Q u → ∀ x ∈ adj u, Q x) {v : Int} {s t : St} (h0 : 0 ≤ v) (hv : Q v) : Dfs adj v s t → ∀ x, 0 ≤ x → t.at x ≠ 0 → s.at x ≠ 0 ∨ Q x
  | .mk (t := t1) h => by
    intro x hx hne
    by_cases e : v.toNat = x.toNat
    · obtain rfl : v = x := by omega
      exact .inr hv
    · have ex : (t1.leave v).at x = t1.at x := by rw [St.leave_at, if_neg (fun h => e h.1)]
      have es : (s.enter v).at x = s.at x := by rw [St.enter_at, if_neg (fun h => e h.1)]
      rw [ex] at hne
      rcases Dfss.sound hw Q hQ (fun y hy => ⟨(hw v y hy).1, hQ v hv y hy⟩) h x hx hne with h1 | h1
      · rw [es] at h1; exact .inl h1
      · exact .inr h1
theorem Dfss.sound {adj : Int → List Int} {n : Nat} (hw : Within adj n) (Q : Int → Prop) (hQ : ∀ u, Q u → ∀ x ∈ adj u, Q x) {ws : List Int} {s t : St} (hws : ∀ x ∈ ws, 0 ≤ x ∧ Q x) : Dfss adj ws s t → ∀ x, 0 ≤ x → t.at x ≠ 0 → s.at x ≠ 0 ∨ Q x
  | .nil => fun _ _ h => .inl h
  | .skip _ h => Dfss.sound hw Q hQ (fun x hx => hws x (List.mem_cons_of_mem _ hx)) h
  | .take (w := w) _ h1 h2 => by
    intro x hx hne
    have a1 := hws w List.mem_cons_self
    rcases Dfss.sound hw Q hQ (fun x hx => hws x (List.mem_cons_of_mem _ hx)) h2 x hx hne with h3 | h3
    · exact Dfs.sound hw Q hQ a1.1 a1.2 h1 x hx h3
    · exact .inr h3
end

theorem Stays.ne {s t : St} (h : Stays s t) {x : Int} (h0 : s.at x ≠ 0) : t.at x ≠ 0 := by rw [(h x).1 h0]; exact h0

mutual
/-- Whoever is newly visited has his whole list visited. -/
theorem Dfs.closed {adj : Int → List Int} {n : Nat} (hw : Within adj n) {v : Int} {s t : St} (hn : s.left.length = n) (h0 : 0 ≤ v) (_hv : v < (n : Int)) (_hz : s.at v = 0) : Dfs adj v s t → ∀ i, 0 ≤ i → s.at i = 0 → t.at i ≠ 0 → ∀ x ∈ adj i, t.at x ≠ 0
  | .mk (t := t1) h => by
    intro i hi hsi hti x hx
    have hl := h.len
    have hl' : (s.enter v).left.length = s.left.length := by simp [St.enter]
    have h1 := Dfss.closed hw (by rw [hl']; exact hn) (hw v) h
    have up : ∀ y, t1.at y ≠ 0 → (t1.leave v).at y ≠ 0 := by
      intro y hy
      rw [St.leave_at]
      split
      · omega
      · exact hy
    by_cases e : v.toNat = i.toNat
    · obtain rfl : v = i := by omega
      exact up x (h1.2 x hx)
    · have ex : (t1.leave v).at i = t1.at i := by rw [St.leave_at, if_neg (fun h => e h.1)]
      have es : (s.enter v).at i = s.at i := by rw [St.enter_at, if_neg (fun h => e h.1)]
      rw [ex] at hti
      exact up x (h1.1 i hi (by rw [es]; exact hsi) hti x hx)
theorem Dfss.closed {adj : Int → List Int} {n : Nat} (hw : Within adj n) {ws : List Int} {s t : St} (hn : s.left.length = n) (hws : ∀ x ∈ ws, 0 ≤ x ∧ x < (n : Int)) : Dfss adj ws s t → (∀ i, 0 ≤ i → s.at i = 0 → t.at i ≠ 0 → ∀ x ∈ adj i, t.at x ≠ 0) ∧ ∀ x ∈ ws, t.at x ≠ 0
  | .nil => ⟨fun i _ h1 h2 => absurd h1 h2, fun x hx => by cases hx⟩
  | .skip (w := w) hne h => by
    have hs := Dfss.stays hw hn (fun x hx => hws x (List.mem_cons_of_mem _ hx)) h
    have h1 := Dfss.closed hw hn (fun x hx => hws x (List.mem_cons_of_mem _ hx)) h
    refine ⟨h1.1, fun x hx => ?_⟩
    rcases List.mem_cons.1 hx with rfl | hx
    · exact hs.ne hne
    · exact h1.2 x hx
  | .take (w := w) (t := t1) hz h1 h2 => by
    have a1 := hws w List.mem_cons_self
    have hl := Dfs.len h1
    have hs := Dfss.stays hw (by rw [hl]; exact hn) (fun x hx => hws x (List.mem_cons_of_mem _ hx)) h2
    have c1 := Dfs.closed hw hn a1.1 a1.2 hz h1
    have c2 := Dfss.closed hw (by rw [hl]; exact hn) (fun x hx => hws x (List.mem_cons_of_mem _ hx)) h2
    have p1 := (Dfs.stays hw hn a1.1 a1.2 hz h1).2
    refine ⟨fun i hi h3 h4 x hx => ?_, fun x hx => ?_⟩
    · by_cases h5 : t1.at i = 0
      · exact c2.1 i hi h5 h4 x hx
      · exact hs.ne (c1 i hi h3 h5 x hx)
    · rcases List.mem_cons.1 hx with rfl | hx
      · exact hs.ne (by omega)
      · exact c2.2 x hx
end

mutual
theorem Dfs.kept {adj : Int → List Int} {v : Int} {s t : St} (h0 : 0 ≤ v) (hw : ∀ u, ∀ x ∈ adj u, 0 ≤ x) : Dfs adj v s t → (∀ x, 0 ≤ x → t.at x ≠ 0 → s.at x ≠ 0 ∨ x ∈ t.order) ∧ (∀ x ∈ s.order, x ∈ t.order)
  | .mk (t := t1) h => by
    have h1 := Dfss.kept (hw v) hw h
    have ho : (t1.leave v).order = t1.order ++ [v] := rfl
    refine ⟨fun x hx hne => ?_, fun x hx => by rw [ho]; exact List.mem_append_left _ (h1.2 x hx)⟩
    by_cases e : v.toNat = x.toNat
    · obtain rfl : v = x := by omega
      exact .inr (by rw [ho]; simp)
    · have ex : (t1.leave v).at x = t1.at x := by rw [St.leave_at, if_neg (fun h => e h.1)]
      have es : (s.enter v).at x = s.at x := by rw [St.enter_at, if_neg (fun h => e h.1)]
      rw [ex] at hne
      rcases h1.1 x hx hne with h2 | h2
      · rw [es] at h2; exact .inl h2
      · exact .inr (by rw [ho]; exact List.mem_append_left _ h2)
theorem Dfss.kept {adj : Int → List Int} {ws : List Int} {s t : St} (hws : ∀ x ∈ ws, 0 ≤ x) (hw : ∀ u, ∀ x ∈ adj u, 0 ≤ x) : Dfss adj ws s t → (∀ x, 0 ≤ x → t.at x ≠ 0 → s.at x ≠ 0 ∨ x ∈ t.order) ∧ (∀ x ∈ s.order, x ∈ t.order)
  | .nil => ⟨fun _ _ h => .inl h, fun _ h => h⟩
  | .skip _ h => Dfss.kept (fun x hx => hws x (List.mem_cons_of_mem _ hx)) hw h
  | .take (w := w) _ h1 h2 => by
    have c1 := Dfs.kept (hws w List.mem_cons_self) hw h1
    have c2 := Dfss.kept (fun x hx => hws x (List.mem_cons_of_mem _ hx)) hw h2
    refine ⟨fun x hx hne => ?_, fun x hx => c2.2 x (c1.2 x hx)⟩
    rcases c2.1 x hx hne with h3 | h3
    · rcases c1.1 x hx h3 with h4 | h4
      · exact .inl h4
      · exact .inr (c2.2 x h4)
    · exact .inr h3
end

mutual
theorem Dfs.range {adj : Int → List Int} {n : Nat} (hw : Within adj n) {v : Int} {s t : St} (hv : 0 ≤ v ∧ v < (n : Int)) (hs : ∀ x ∈ s.order, 0 ≤ x ∧ x < (n : Int)) : Dfs adj v s t → ∀ x ∈ t.order, 0 ≤ x ∧ x < (n : Int)
  | .mk (t := t1) h => by
    intro x hx
    have h1 := Dfss.range hw (hw v) (s := s.enter v) hs h
    rcases List.mem_append.1 (show x ∈ t1.order ++ [v] from hx) with hx | hx
    · exact h1 x hx
    · rw [List.mem_singleton] at hx; subst hx; exact hv
theorem Dfss.range {adj : Int → List Int} {n : Nat} (hw : Within adj n) {ws : List Int} {s t : St} (hws : ∀ x ∈ ws, 0 ≤ x ∧ x < (n : Int)) (hs : ∀ x ∈ s.order, 0 ≤ x ∧ x < (n : Int)) : Dfss adj ws s t → ∀ x ∈ t.order, 0 ≤ x ∧ x < (n : Int)
  | .nil => hs
  | .skip _ h => Dfss.range hw (fun x hx => hws x (List.mem_cons_of_mem _ hx)) hs h
  | .take (w := w) _ h1 h2 => Dfss.range hw (fun x hx => hws x (List.mem_cons_of_mem _ hx)) (Dfs.range hw (hws w List.mem_cons_self) hs h1) h2
end
end Go.Proofs.Qxb6003663a
