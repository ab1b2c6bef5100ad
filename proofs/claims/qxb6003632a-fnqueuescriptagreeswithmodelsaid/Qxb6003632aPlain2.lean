/-
  The plain law of the merge sort: no Go in sight.
-/
import Derived.Test.Qxb6003632aBase
namespace Go.Proofs.Qxb6003632a

/-- a no later than b, by all fields. -/
def fle (a b : Ev) : Prop := fullLess b a = false
theorem fullLess_iff (a b : Ev) : fullLess a b = true ↔ a.tick < b.tick ∨ (a.tick = b.tick ∧ (a.kind < b.kind ∨ (a.kind = b.kind ∧ (a.seq < b.seq ∨ (a.seq = b.seq ∧ (a.bid < b.bid ∨ (a.bid = b.bid ∧ (a.task < b.task ∨ (a.task = b.task ∧ (a.ctr < b.ctr ∨ (a.ctr = b.ctr ∧ a.perf < b.perf))))))))))) := by
  unfold fullLess keyLess
  by_cases h1 : a.tick = b.tick
  · by_cases h2 : a.kind = b.kind
    · by_cases h3 : a.seq = b.seq
      · by_cases h4 : a.bid = b.bid
        · by_cases h5 : a.task = b.task
          · by_cases h6 : a.ctr = b.ctr
            · simp [h1, h2, h3, h4, h5, h6]
            · simp [h1, h2, h3, h4, h5, h6]
          · simp [h1, h2, h3, h4, h5]
        · simp [h1, h2, h3, h4]
      · simp [h1, h2, h3]
    · simp [h1, h2]
  · simp [h1]
theorem fle_iff (a b : Ev) : fle a b ↔ ¬ (fullLess b a = true) := by unfold fle; simp
theorem fle_of_less {a b : Ev} (h : fullLess a b = true) : fle a b := by
  rw [fle_iff]; intro h'; rw [fullLess_iff] at h h'; omega
theorem fle_trans {a b c : Ev} (h : fle a b) (k : fle b c) : fle a c := by
  rw [fle_iff] at *; intro h'; rw [fullLess_iff] at h h' k; omega
theorem fle_refl (a : Ev) : fle a a := by rw [fle_iff]; intro h; rw [fullLess_iff] at h; omega
theorem fle_antisymm {a b : Ev} (h : fle a b) (k : fle b a) : a = b := by
  rw [fle_iff] at h k
  rw [fullLess_iff] at h k
  obtain ⟨a0, a1, a2, a3, a4, a5, a6⟩ := a
  obtain ⟨b0, b1, b2, b3, b4, b5, b6⟩ := b
  simp only [Ev.mk.injEq] at *
  omega

/-- Two sorted lists of the same elements are one. -/
theorem sorted_unique : ∀ {l m : List Ev}, l.Pairwise fle → m.Pairwise fle → l.Perm m → l = m
  | [], m, _, _, h => (List.nil_perm.1 h).symm
  | a :: l, [], _, _, h => by simp at h
  | a :: l, b :: m, hl, hm, h => by
    have h1 := List.pairwise_cons.1 hl
    have h2 := List.pairwise_cons.1 hm
    have hab : a = b := by
      have ha : a ∈ b :: m := h.subset (List.mem_cons_self ..)
      have hb : b ∈ a :: l := h.symm.subset (List.mem_cons_self ..)
      rcases List.mem_cons.1 ha with e | ha
      · exact e
      rcases List.mem_cons.1 hb with e | hb
      · exact e.symm
      exact fle_antisymm (h1.1 b hb) (h2.1 a ha)
    subst hab
    rw [sorted_unique h1.2 h2.2 ((List.perm_cons a).1 h)]

/-- Every chunk of W is in order. -/
def Runs (xs : List Ev) (W : Nat) : Prop := ∀ p q (hp : p < xs.length) (hq : q < xs.length), p < q → p / W = q / W → fle xs[p] xs[q]

theorem runs_one (xs : List Ev) : Runs xs 1 := by
  intro p q hp hq hlt he
  simp at he
  omega
theorem runs_all {xs : List Ev} {W : Nat} (h : Runs xs W) (hW : xs.length ≤ W) : xs.Pairwise fle := by
  rw [List.pairwise_iff_getElem]
  intro i j hi hj hlt
  exact h i j hi hj hlt (by rw [Nat.div_eq_of_lt (by omega), Nat.div_eq_of_lt (by omega)])

/-- In the midst of a merge: 'pre' and the merged 'ms' lie in zs; from the left run up to i, from the right one up to j are taken. -/
structure Mrg (xs zs pre : List Ev) (lo mid hi i j k : Nat) (ms : List Ev) : Prop where
  len : zs.length = xs.length
  bnd : lo ≤ i ∧ i ≤ mid ∧ mid ≤ j ∧ j ≤ hi ∧ hi ≤ xs.length
  kk : k + mid = i + j
  take : zs.take k = pre ++ ms
  prel : pre.length = lo
  perm : ms.Perm ((xs.take i).drop lo ++ (xs.take j).drop mid)
  srt : ms.Pairwise fle
  left : ∀ m ∈ ms, ∀ q (hq : q < xs.length), i ≤ q → q < mid → fle m xs[q]
  right : ∀ m ∈ ms, ∀ q (hq : q < xs.length), j ≤ q → q < hi → fle m xs[q]

theorem mrg_start {xs zs : List Ev} {lo mid hi : Nat} (hl : zs.length = xs.length) (h1 : lo ≤ mid) (h2 : mid ≤ hi) (h3 : hi ≤ xs.length) : Mrg xs zs (zs.take lo) lo mid hi lo mid lo [] := by
  refine ⟨hl, ⟨Nat.le_refl _, h1, Nat.le_refl _, h2, h3⟩, rfl, by simp, by simp; omega, ?_, List.Pairwise.nil, fun m hm => by simp at hm, fun m hm => by simp at hm⟩
  rw [List.drop_eq_nil_of_le (by simp; omega), List.drop_eq_nil_of_le (by simp; omega)]
  exact List.Perm.refl _

theorem take_set_succ (zs : List Ev) (k : Nat) (x : Ev) (hk : k < zs.length) : (zs.set k x).take (k + 1) = zs.take k ++ [x] := by
  rw [List.take_succ_eq_append_getElem (by simpa using hk), List.take_set_of_le (Nat.le_refl _)]
  simp
theorem drop_take_succ (xs : List Ev) (lo i : Nat) (hlo : lo ≤ i) (hi : i < xs.length) : (xs.take (i + 1)).drop lo = (xs.take i).drop lo ++ [xs[i]] := by
  rw [List.take_succ_eq_append_getElem hi, List.drop_append_of_le_length (by simp; omega)]

theorem mrg_left {xs zs pre ms : List Ev} {lo mid hi i j k : Nat} (h : Mrg xs zs pre lo mid hi i j k ms) (hi1 : i < mid) (hx : i < xs.length) (hk : k < zs.length)
    (hrun : ∀ q (hq : q < xs.length), i ≤ q → q < mid → fle xs[i] xs[q]) (hc : ∀ q (hq : q < xs.length), j ≤ q → q < hi → fle xs[i] xs[q]) :
    Mrg xs (zs.set k xs[i]) pre lo mid hi (i + 1) j (k + 1) (ms ++ [xs[i]]) := by
  obtain ⟨len, bnd, kk, take, prel, perm, srt, left, right⟩ := h
  refine ⟨by simpa using len, ⟨by omega, by omega, bnd.2.2.1, bnd.2.2.2.1, bnd.2.2.2.2⟩, by omega, ?_, prel, ?_, ?_, ?_, ?_⟩
  · rw [take_set_succ zs k _ hk, take, List.append_assoc]
  · rw [drop_take_succ xs lo i bnd.1 hx]
    have e : ((xs.take i).drop lo ++ [xs[i]] ++ (xs.take j).drop mid).Perm ((xs.take i).drop lo ++ (xs.take j).drop mid ++ [xs[i]]) := by
      rw [List.append_assoc, List.append_assoc]
      exact List.Perm.append_left _ List.perm_append_comm
    exact (perm.append_right _).trans e.symm
  · rw [List.pairwise_append]
    refine ⟨srt, List.pairwise_singleton _ _, fun a ha b hb => ?_⟩
    simp at hb; subst hb
    exact left a ha i hx (Nat.le_refl _) hi1
  · intro m hm q hq h1 h2
    rcases List.mem_append.1 hm with hm | hm
    · exact left m hm q hq (by omega) h2
    · simp at hm; subst hm; exact hrun q hq (by omega) h2
  · intro m hm q hq h1 h2
    rcases List.mem_append.1 hm with hm | hm
    · exact right m hm q hq h1 h2
    · simp at hm; subst hm; exact hc q hq h1 h2

theorem mrg_right {xs zs pre ms : List Ev} {lo mid hi i j k : Nat} (h : Mrg xs zs pre lo mid hi i j k ms) (hj1 : j < hi) (hx : j < xs.length) (hk : k < zs.length)
    (hrun : ∀ q (hq : q < xs.length), j ≤ q → q < hi → fle xs[j] xs[q]) (hc : ∀ q (hq : q < xs.length), i ≤ q → q < mid → fle xs[j] xs[q]) :
    Mrg xs (zs.set k xs[j]) pre lo mid hi i (j + 1) (k + 1) (ms ++ [xs[j]]) := by
  obtain ⟨len, bnd, kk, take, prel, perm, srt, left, right⟩ := h
  refine ⟨by simpa using len, ⟨bnd.1, bnd.2.1, by omega, by omega, bnd.2.2.2.2⟩, by omega, ?_, prel, ?_, ?_, ?_, ?_⟩
  · rw [take_set_succ zs k _ hk, take, List.append_assoc]
  · rw [drop_take_succ xs mid j bnd.2.2.1 hx, ← List.append_assoc]
    exact perm.append_right _
  · rw [List.pairwise_append]
    refine ⟨srt, List.pairwise_singleton _ _, fun a ha b hb => ?_⟩
    simp at hb; subst hb
    exact right a ha j hx (Nat.le_refl _) hj1
  · intro m hm q hq h1 h2
    rcases List.mem_append.1 hm with hm | hm
    · exact left m hm q hq h1 h2
    · simp at hm; subst hm; exact hc q hq h1 h2
  · intro m hm q hq h1 h2
    rcases List.mem_append.1 hm with hm | hm
    · exact right m hm q hq (by omega) h2
    · simp at hm; subst hm; exact hrun q hq (by omega) h2

/-- How far a pass has come: up to b. -/
structure Pass (xs zs : List Ev) (W b : Nat) : Prop where
  len : zs.length = xs.length
  perm : (zs.take b).Perm (xs.take b)
  runs : Runs (zs.take b) (2 * W)

theorem pass_start (xs zs : List Ev) (W : Nat) (h : zs.length = xs.length) : Pass xs zs W 0 := ⟨h, by simp, fun p q hp hq => by simp at hp⟩

theorem pass_step {xs zs0 zs ms : List Ev} {W c mid hi : Nat} (hW : 0 < W) (h0 : Pass xs zs0 W (c * (2 * W))) (_hc : c * (2 * W) ≤ xs.length) (hh : hi = min (c * (2 * W) + 2 * W) xs.length)
    (h : Mrg xs zs (zs0.take (c * (2 * W))) (c * (2 * W)) mid hi mid hi hi ms) : Pass xs zs W hi := by
  obtain ⟨len, bnd, kk, take, prel, perm, srt, _, _⟩ := h
  have hlo : c * (2 * W) ≤ hi := by omega
  have eseg : (xs.take mid).drop (c * (2 * W)) ++ (xs.take hi).drop mid = (xs.take hi).drop (c * (2 * W)) := by
    have e1 : xs.take mid = (xs.take hi).take mid := by rw [List.take_take]; congr 1; omega
    rw [e1]
    conv => rhs; rw [← List.take_append_drop mid (xs.take hi)]
    rw [List.drop_append_of_le_length (by simp; omega)]
  have eall : xs.take hi = xs.take (c * (2 * W)) ++ (xs.take hi).drop (c * (2 * W)) := by
    conv => lhs; rw [← List.take_append_drop (c * (2 * W)) (xs.take hi)]
    rw [List.take_take, Nat.min_eq_left hlo]
  refine ⟨len, ?_, ?_⟩
  · rw [take, eall]
    rw [eseg] at perm
    exact h0.perm.append perm
  · have hlenm : ms.length = hi - c * (2 * W) := by
      have := perm.length_eq
      rw [eseg] at this
      simp at this
      omega
    have hW2 : 0 < 2 * W := by omega
    intro p q hp hq hlt he
    have hp' : p < (zs0.take (c * (2 * W)) ++ ms).length := by rw [← take]; exact hp
    have hq' : q < (zs0.take (c * (2 * W)) ++ ms).length := by rw [← take]; exact hq
    have gp : (zs.take hi)[p] = (zs0.take (c * (2 * W)) ++ ms)[p] := by simp only [take]
    have gq : (zs.take hi)[q] = (zs0.take (c * (2 * W)) ++ ms)[q] := by simp only [take]
    rw [gp, gq]
    by_cases hqc : q < c * (2 * W)
    · rw [List.getElem_append_left (by rw [prel]; omega), List.getElem_append_left (by rw [prel]; omega)]
      exact h0.runs p q (by rw [prel]; omega) (by rw [prel]; omega) hlt he
    · by_cases hpc : p < c * (2 * W)
      · exfalso
        have h1 : p / (2 * W) < c := (Nat.div_lt_iff_lt_mul hW2).2 hpc
        have h2 : c ≤ q / (2 * W) := (Nat.le_div_iff_mul_le hW2).2 (by omega)
        omega
      · rw [List.getElem_append_right (by rw [prel]; omega), List.getElem_append_right (by rw [prel]; omega)]
        rw [List.pairwise_iff_getElem] at srt
        exact srt _ _ _ _ (by omega)

theorem pass_end {xs zs : List Ev} {W : Nat} (h : Pass xs zs W xs.length) : zs.Perm xs ∧ Runs zs (2 * W) := by
  obtain ⟨len, perm, runs⟩ := h
  rw [List.take_of_length_le (by omega), List.take_of_length_le (Nat.le_refl _)] at perm
  rw [List.take_of_length_le (by omega)] at runs
  exact ⟨perm, runs⟩

/-- Two places of one run of W. -/
theorem run_left {xs : List Ev} {W c : Nat} (h : Runs xs W) (hW : 0 < W) {p q : Nat} (hp : p < xs.length) (hq : q < xs.length) (h1 : c * (2 * W) ≤ p) (h2 : p ≤ q) (h3 : q < c * (2 * W) + W) : fle xs[p] xs[q] := by
  by_cases e : p = q
  · subst e; exact fle_refl _
  · have key : ∀ r, c * (2 * W) ≤ r → r < c * (2 * W) + W → r / W = 2 * c := by
      intro r hr1 hr2
      rw [Nat.div_eq_iff hW]
      have : c * (2 * W) = 2 * c * W := by rw [Nat.mul_comm 2 c, Nat.mul_assoc]
      omega
    exact h p q hp hq (by omega) (by rw [key p h1 (by omega), key q (by omega) h3])
theorem run_right {xs : List Ev} {W c : Nat} (h : Runs xs W) (hW : 0 < W) {p q : Nat} (hp : p < xs.length) (hq : q < xs.length) (h1 : c * (2 * W) + W ≤ p) (h2 : p ≤ q) (h3 : q < c * (2 * W) + 2 * W) : fle xs[p] xs[q] := by
  by_cases e : p = q
  · subst e; exact fle_refl _
  · have key : ∀ r, c * (2 * W) + W ≤ r → r < c * (2 * W) + 2 * W → r / W = 2 * c + 1 := by
      intro r hr1 hr2
      rw [Nat.div_eq_iff hW]
      have : c * (2 * W) = 2 * c * W := by rw [Nat.mul_comm 2 c, Nat.mul_assoc]
      have : (2 * c + 1) * W = 2 * c * W + W := by rw [Nat.add_mul, Nat.one_mul]
      omega
    exact h p q hp hq (by omega) (by rw [key p h1 (by omega), key q (by omega) h3])
end Go.Proofs.Qxb6003632a
