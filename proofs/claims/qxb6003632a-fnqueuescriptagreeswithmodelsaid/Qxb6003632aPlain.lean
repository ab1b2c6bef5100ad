/-
  The plain laws of the queue: no Go in sight.
-/
import Derived.Test.Qxb6003632aBase
namespace Go.Proofs.Qxb6003632a

theorem keyLess_iff (a b : Ev) : keyLess a b = true ↔ a.tick < b.tick ∨ (a.tick = b.tick ∧ (a.kind < b.kind ∨ (a.kind = b.kind ∧ a.seq < b.seq))) := by
  unfold keyLess
  by_cases h1 : a.tick = b.tick
  · by_cases h2 : a.kind = b.kind
    · simp [h1, h2]
    · simp [h1, h2]
  · simp [h1]

/-- a is no later than b. -/
def le (a b : Ev) : Prop := keyLess b a = false
theorem le_iff (a b : Ev) : le a b ↔ a.tick < b.tick ∨ (a.tick = b.tick ∧ (a.kind < b.kind ∨ (a.kind = b.kind ∧ a.seq ≤ b.seq))) := by
  unfold le
  rw [← Bool.not_eq_true, keyLess_iff]
  omega
theorem le_refl (a : Ev) : le a a := by rw [le_iff]; omega
theorem le_trans {a b c : Ev} (h : le a b) (k : le b c) : le a c := by rw [le_iff] at *; omega
theorem le_of_less {a b : Ev} (h : keyLess a b = true) : le a b := by rw [keyLess_iff] at h; rw [le_iff]; omega
theorem le_total (a b : Ev) : le a b ∨ le b a := by rw [le_iff, le_iff]; omega

theorem heap_iff (es : List Ev) : Heap es ↔ ∀ i (h : i < es.length), 1 ≤ i → le (es[(i - 1) / 2]'(by omega)) es[i] :=
  ⟨fun h i hi h1 => h i hi h1 hi, fun h i hi h1 _ => h i hi h1⟩

/-- Two elements change places. -/
def swapL (es : List Ev) (i p : Nat) (hi : i < es.length) (hp : p < es.length) : List Ev := (es.set i es[p]).set p es[i]
theorem swapL_len (es : List Ev) (i p : Nat) (hi : i < es.length) (hp : p < es.length) : (swapL es i p hi hp).length = es.length := by simp [swapL]
theorem swapL_perm (es : List Ev) (i p : Nat) (hi : i < es.length) (hp : p < es.length) : (swapL es i p hi hp).Perm es := List.set_set_perm hi hp
theorem swapL_get (es : List Ev) (i p : Nat) (hi : i < es.length) (hp : p < es.length) (j : Nat) (hj : j < (swapL es i p hi hp).length) :
    (swapL es i p hi hp)[j] = if j = p then es[i] else if j = i then es[p] else es[j]'(by simpa [swapL] using hj) := by
  simp only [swapL, List.getElem_set]
  by_cases h1 : p = j
  · subst h1; simp
  · by_cases h2 : i = j
    · subst h2
      rw [if_neg h1, if_pos rfl, if_neg (by omega)]
    · rw [if_neg h1, if_neg h2, if_neg (by omega), if_neg (by omega)]

/-- A heap but for the way up from i. -/
structure Up (es : List Ev) (i : Nat) : Prop where
  other : ∀ j (h : j < es.length), 1 ≤ j → j ≠ i → le (es[(j - 1) / 2]'(by omega)) es[j]
  below : ∀ j (h : j < es.length), 1 ≤ j → ∀ (_ : (j - 1) / 2 = i), 1 ≤ i → le (es[(i - 1) / 2]'(by omega)) es[j]

theorem up_start {es : List Ev} (h : Heap es) (e : Ev) : Up (es ++ [e]) es.length := by
  rw [heap_iff] at h
  constructor
  · intro j hj h1 hne
    have hj' : j < es.length := by simp at hj; omega
    rw [List.getElem_append_left hj', List.getElem_append_left (by omega)]
    exact h j hj' h1
  · intro j hj h1 hp hi
    simp at hj
    omega

theorem up_end {es : List Ev} {i : Nat} (h : Up es i) (hi : i < es.length) (hc : i = 0 ∨ keyLess es[i] (es[(i - 1) / 2]'(by omega)) = false) : Heap es := by
  rw [heap_iff]
  intro j hj h1
  by_cases e : j = i
  · subst e
    rcases hc with h0 | h0
    · omega
    · exact h0
  · exact h.other j hj h1 e

theorem up_step {es : List Ev} {i : Nat} (h : Up es i) (hi : i < es.length) (h1 : 1 ≤ i) (hl : keyLess es[i] (es[(i - 1) / 2]'(by omega)) = true) :
    Up (swapL es i ((i - 1) / 2) hi (by omega)) ((i - 1) / 2) := by
  have hlt := le_of_less hl
  constructor
  · intro j hj hj1 hne
    have hj' : j < es.length := by rw [swapL_len] at hj; exact hj
    rw [swapL_get, swapL_get, if_neg hne]
    by_cases e : j = i
    · subst e
      rw [if_pos rfl, if_pos rfl]
      exact hlt
    · rw [if_neg e]
      by_cases e2 : (j - 1) / 2 = (i - 1) / 2
      · rw [if_pos e2]
        have := h.other j hj' hj1 e
        simp only [e2] at this
        exact le_trans hlt this
      · rw [if_neg e2]
        by_cases e3 : (j - 1) / 2 = i
        · rw [if_pos e3]
          exact h.below j hj' hj1 e3 h1
        · rw [if_neg e3]
          exact h.other j hj' hj1 e
  · intro j hj hj1 hp hi1
    have hj' : j < es.length := by rw [swapL_len] at hj; exact hj
    rw [swapL_get, swapL_get]
    have e1 : ((i - 1) / 2 - 1) / 2 ≠ (i - 1) / 2 := by omega
    have e2 : ((i - 1) / 2 - 1) / 2 ≠ i := by omega
    rw [if_neg e1, if_neg e2, if_neg (show j ≠ (i - 1) / 2 by omega)]
    have hpp := h.other ((i - 1) / 2) (by omega) hi1 (by omega)
    by_cases e : j = i
    · rw [if_pos e]; exact hpp
    · rw [if_neg e]
      have := h.other j hj' hj1 e
      simp only [hp] at this
      exact le_trans hpp this

/-- A heap but for the way down from i. -/
structure Down (es : List Ev) (i : Nat) : Prop where
  other : ∀ j (h : j < es.length), 1 ≤ j → (j - 1) / 2 ≠ i → le (es[(j - 1) / 2]'(by omega)) es[j]
  below : ∀ j (h : j < es.length), 1 ≤ j → ∀ (_ : (j - 1) / 2 = i), 1 ≤ i → le (es[(i - 1) / 2]'(by omega)) es[j]

/-- The last takes the first's place. -/
def popL (es : List Ev) (h : 0 < es.length) : List Ev := (es.set 0 es[es.length - 1]).take (es.length - 1)
theorem popL_len (es : List Ev) (h : 0 < es.length) : (popL es h).length = es.length - 1 := by simp [popL]
theorem popL_get (es : List Ev) (h : 0 < es.length) (j : Nat) (hj : j < (popL es h).length) : (popL es h)[j] = if j = 0 then es[es.length - 1] else es[j]'(by rw [popL_len] at hj; omega) := by
  simp only [popL, List.getElem_take, List.getElem_set]
  by_cases e : j = 0
  · subst e; simp
  · rw [if_neg (by omega), if_neg e]

theorem down_start {es : List Ev} (h0 : 0 < es.length) (h : Heap es) : Down (popL es h0) 0 := by
  rw [heap_iff] at h
  constructor
  · intro j hj h1 hne
    have hj' := hj
    rw [popL_len] at hj'
    rw [popL_get, popL_get, if_neg hne, if_neg (show j ≠ 0 by omega)]
    exact h j (by omega) h1
  · intro j hj h1 hp hi
    omega

theorem popL_perm {es : List Ev} (h0 : 0 < es.length) : (es[0] :: popL es h0).Perm es := by
  match es, h0 with
  | [a], _ => simp [popL]
  | a :: b :: l, _ =>
    have e : (b :: l) = (b :: l).dropLast ++ [(b :: l).getLast (by simp)] := (List.dropLast_concat_getLast (by simp)).symm
    have hp : popL (a :: b :: l) (by simp) = (b :: l).getLast (by simp) :: (b :: l).dropLast := by
      simp only [popL, List.set_cons_zero, List.length_cons, Nat.add_sub_cancel, List.take_succ_cons, List.dropLast_eq_take]
      congr 1
      rw [List.getLast_eq_getElem]
      simp
    show (a :: popL (a :: b :: l) (by simp)).Perm (a :: b :: l)
    rw [hp]
    refine List.Perm.cons a ?_
    conv => rhs; rw [e]
    exact (List.perm_append_singleton _ _).symm

theorem down_end {es : List Ev} {i : Nat} (h : Down es i) (hc : ∀ j (hj : j < es.length), 1 ≤ j → ∀ (_ : (j - 1) / 2 = i), le (es[i]'(by omega)) es[j]) : Heap es := by
  rw [heap_iff]
  intro j hj h1
  by_cases e : (j - 1) / 2 = i
  · have := hc j hj h1 e
    simp only [e]; exact this
  · exact h.other j hj h1 e

/-- m is a child of i that comes before i and no later than the other child. -/
theorem down_step {es : List Ev} {i m : Nat} (h : Down es i) (hi : i < es.length) (hm : m < es.length) (hm1 : 1 ≤ m) (hp : (m - 1) / 2 = i) (hl : keyLess es[m] es[i] = true)
    (hmin : ∀ j (hj : j < es.length), 1 ≤ j → (j - 1) / 2 = i → le es[m] es[j]) : Down (swapL es i m hi hm) m := by
  have hle := le_of_less hl
  constructor
  · intro j hj h1 hne
    have hj' : j < es.length := by rw [swapL_len] at hj; exact hj
    rw [swapL_get, swapL_get, if_neg hne]
    by_cases e : (j - 1) / 2 = i
    · rw [if_pos e]
      by_cases e2 : j = m
      · rw [if_pos e2]; exact hle
      · rw [if_neg e2]
        by_cases e3 : j = i
        · omega
        · rw [if_neg e3]; exact hmin j hj' h1 e
    · rw [if_neg e]
      by_cases e2 : j = m
      · subst e2; omega
      · rw [if_neg e2]
        by_cases e3 : j = i
        · subst e3
          rw [if_pos rfl]
          exact h.below m hm hm1 hp h1
        · rw [if_neg e3]; exact h.other j hj' h1 e
  · intro j hj h1 hpj hm0
    have hj' : j < es.length := by rw [swapL_len] at hj; exact hj
    rw [swapL_get, swapL_get]
    have e1 : (m - 1) / 2 ≠ m := by omega
    rw [if_neg e1, if_pos hp, if_neg (show j ≠ m by omega), if_neg (show j ≠ i by omega)]
    have := h.other j hj' h1 (by omega)
    simp only [hpj] at this
    exact this

/-- The first of a heap is no later than any. -/
theorem heap_root {es : List Ev} (h : Heap es) : ∀ (n i : Nat) (hi : i < es.length), i ≤ n → le (es[0]'(by omega)) es[i]
  | 0, i, hi, h0 => by obtain rfl : i = 0 := by omega
                       exact le_refl _
  | n + 1, i, hi, hn => by
    by_cases e : i = 0
    · subst e; exact le_refl _
    · exact le_trans (heap_root h n ((i - 1) / 2) (by omega) (by omega)) ((heap_iff es).1 h i hi (by omega))
theorem heap_min {es : List Ev} (h : Heap es) (h0 : 0 < es.length) : ∀ x ∈ es, le es[0] x := by
  intro x hx
  obtain ⟨i, hi, rfl⟩ := List.getElem_of_mem hx
  exact heap_root h i i hi (Nat.le_refl _)
end Go.Proofs.Qxb6003632a
