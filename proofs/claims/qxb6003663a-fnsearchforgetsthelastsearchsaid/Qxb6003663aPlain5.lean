/-
  The breadth-first search against the depth-first one.
-/
import Derived.Test.Qxb6003663aPlain4
namespace Go.Proofs.Qxb6003663a

def sn (seen : List Bool) (x : Int) : Bool := seen.getD x.toNat false

/-- The queue's search under way: h heads are done. -/
structure RInv (es : List (List Int)) (r : Int) (seen : List Bool) (q : List Int) (h : Nat) : Prop where
  len : seen.length = es.length
  rng : ∀ x ∈ q, 0 ≤ x ∧ x < (es.length : Int)
  root : sn seen r = true
  inq : ∀ x : Int, 0 ≤ x → sn seen x = true → x ∈ q
  sound : ∀ Q : Int → Prop, Q r → (∀ u, Q u → ∀ x ∈ es.getD u.toNat [], Q x) → ∀ x ∈ q, Q x
  done : ∀ (j : Nat) (v : Int), j < h → q[j]? = some v → ∀ x ∈ es.getD v.toNat [], sn seen x = true
  sum : q.length + seen.count false ≤ es.length

theorem sn_set (seen : List Bool) (x y : Int) (hx : x.toNat < seen.length) : sn (seen.set x.toNat true) y = if x.toNat = y.toNat then true else sn seen y := by
  unfold sn
  rw [List.getD_eq_getElem?_getD, List.getD_eq_getElem?_getD, List.getElem?_set]
  by_cases e : x.toNat = y.toNat
  · simp [e, e ▸ hx]
  · simp [e]
theorem sn_up (seen : List Bool) (x y : Int) (hx : x.toNat < seen.length) (h : sn seen y = true) : sn (seen.set x.toNat true) y = true := by
  rw [sn_set _ _ _ hx]
  split
  · rfl
  · exact h

theorem RInv.start {es : List (List Int)} {r : Int} (h0 : 0 ≤ r) (hr : r < (es.length : Int)) : RInv es r ((List.replicate es.length false).set r.toNat true) [r] 0 := by
  have hl : r.toNat < (List.replicate es.length false).length := by simp; omega
  have hz : ∀ y, sn (List.replicate es.length false) y = false := by
    intro y
    unfold sn
    rw [List.getD_eq_getElem?_getD, List.getElem?_replicate]
    split <;> rfl
  refine ⟨by simp, fun x hx => by rw [List.mem_singleton] at hx; subst hx; exact ⟨h0, hr⟩, by rw [sn_set _ _ _ hl, if_pos rfl], fun x hx hs => ?_, fun Q hQ _ x hx => by rw [List.mem_singleton] at hx; subst hx; exact hQ, fun j v hj => by omega, ?_⟩
  · rw [sn_set _ _ _ hl] at hs
    by_cases e : r.toNat = x.toNat
    · rw [List.mem_singleton]; omega
    · rw [if_neg e, hz] at hs; cases hs
  · rw [List.count_set hl]
    simp
    omega

theorem RInv.add {es : List (List Int)} {r : Int} {seen : List Bool} {q : List Int} {h : Nat} (k : RInv es r seen q h) {v x : Int} (hv : v ∈ q) (hx : x ∈ es.getD v.toNat []) (hx0 : 0 ≤ x) (hxn : x < (es.length : Int)) (hs : sn seen x = false) (hh : h ≤ q.length) :
    RInv es r (seen.set x.toNat true) (q ++ [x]) h := by
  have hl : x.toNat < seen.length := by rw [k.len]; omega
  refine ⟨by rw [List.length_set]; exact k.len, fun y hy => ?_, sn_up _ _ _ hl k.root, fun y hy hys => ?_, fun Q hQ hc y hy => ?_, fun j u hj hu y hy => ?_, ?_⟩
  · rcases List.mem_append.1 hy with hy | hy
    · exact k.rng y hy
    · rw [List.mem_singleton] at hy; subst hy; exact ⟨hx0, hxn⟩
  · rw [sn_set _ _ _ hl] at hys
    by_cases e : x.toNat = y.toNat
    · obtain rfl : x = y := by omega
      simp
    · rw [if_neg e] at hys
      exact List.mem_append_left _ (k.inq y hy hys)
  · rcases List.mem_append.1 hy with hy | hy
    · exact k.sound Q hQ hc y hy
    · rw [List.mem_singleton] at hy; subst hy
      exact hc v (k.sound Q hQ hc v hv) y hx
  · rw [List.getElem?_append_left (by omega)] at hu
    exact sn_up _ _ _ hl (k.done j u hj hu y hy)
  · rw [List.count_set hl]
    have e : seen[x.toNat] = false := by
      unfold sn at hs
      rw [List.getD_eq_getElem?_getD, List.getElem?_eq_getElem hl] at hs
      exact hs
    have hc : 0 < seen.count false := List.count_pos_iff.2 (by rw [← e]; exact List.getElem_mem hl)
    have := k.sum
    simp [e]
    omega

theorem RInv.next {es : List (List Int)} {r : Int} {seen : List Bool} {q : List Int} {h : Nat} (k : RInv es r seen q h) {v : Int} (hv : q[h]? = some v) (hall : ∀ x ∈ es.getD v.toNat [], sn seen x = true) : RInv es r seen q (h + 1) := by
  refine ⟨k.len, k.rng, k.root, k.inq, k.sound, fun j u hj hu y hy => ?_, k.sum⟩
  by_cases e : j = h
  · subst e
    rw [hv] at hu
    obtain rfl := Option.some.inj hu
    exact hall y hy
  · exact k.done j u (by omega) hu y hy

/-- What the queue's search has seen at its end. -/
structure Reached (es : List (List Int)) (r : Int) (seen : List Bool) : Prop where
  len : seen.length = es.length
  root : sn seen r = true
  sound : ∀ Q : Int → Prop, Q r → (∀ u, Q u → ∀ x ∈ es.getD u.toNat [], Q x) → ∀ x : Int, 0 ≤ x → sn seen x = true → Q x
  closed : ∀ v : Int, 0 ≤ v → sn seen v = true → ∀ x ∈ es.getD v.toNat [], sn seen x = true
theorem RInv.end {es : List (List Int)} {r : Int} {seen : List Bool} {q : List Int} {h : Nat} (k : RInv es r seen q h) (hh : q.length ≤ h) : Reached es r seen := by
  refine ⟨k.len, k.root, fun Q hQ hc x hx hs => k.sound Q hQ hc x (k.inq x hx hs), fun v hv hs x hx => ?_⟩
  obtain ⟨j, hj, e⟩ := List.getElem_of_mem (k.inq v hv hs)
  exact k.done j v (by omega) (by rw [List.getElem?_eq_getElem hj, e]) x hx

theorem mem_adjOf {es : List (List Int)} {back : Bool} {v x : Int} : x ∈ adjOf es back v ↔ x ∈ es.getD v.toNat [] := by
  unfold adjOf; cases back <;> simp

/-- The two searches see the same. -/
theorem same_seen {es : List (List Int)} {back : Bool} {r : Int} {t : St} {seen : List Bool} (hid : ∀ l ∈ es, ∀ x ∈ l, 0 ≤ x ∧ x < (es.length : Int)) (h0 : 0 ≤ r) (hr : r < (es.length : Int)) (hd : Dfs (adjOf es back) r (St.zero es.length) t) (hs : Reached es r seen) (i : Nat) :
    seen.getD i false = decide (0 < t.left.getD i 0) := by
  have hw := adjOf_within hid back
  have hl : (St.zero es.length).left.length = es.length := by simp [St.zero]
  have hst := Dfs.stays hw hl h0 hr (St.zero_at _ _) hd
  have hpos : ∀ x, 0 ≤ t.at x := fun x => (hst.1 x).2 (St.zero_at _ _)
  have ei : t.left.getD i 0 = t.at (i : Int) := by simp [St.at]
  have es' : seen.getD i false = sn seen (i : Int) := by simp [sn]
  rw [ei, es']
  cases hsi : sn seen (i : Int) with
  | true =>
    have : t.at (i : Int) ≠ 0 := (hs.sound (fun x => 0 ≤ x ∧ t.at x ≠ 0) ⟨h0, by omega⟩ (fun u hu x hx =>
      ⟨(hw u x (mem_adjOf.2 hx)).1, Dfs.closed hw hl h0 hr (St.zero_at _ _) hd u hu.1 (St.zero_at _ _) hu.2 x (mem_adjOf.2 hx)⟩) i (by omega) hsi).2
    have := hpos i
    rw [decide_eq_true (by omega)]
  | false =>
    rw [decide_eq_false]
    intro hlt
    rcases Dfs.sound hw (fun x => 0 ≤ x ∧ sn seen x = true) (fun u hu x hx => ⟨(hw u x hx).1, hs.closed u hu.1 hu.2 x (mem_adjOf.1 hx)⟩) h0 ⟨h0, hs.root⟩ hd i (by omega) (by omega) with h1 | h1
    · exact h1 (St.zero_at _ _)
    · rw [hsi] at h1; exact absurd h1.2 (by decide)

theorem count_order {es : List (List Int)} {back : Bool} {r : Int} {t : St} (hid : ∀ l ∈ es, ∀ x ∈ l, 0 ≤ x ∧ x < (es.length : Int)) (h0 : 0 ≤ r) (hr : r < (es.length : Int)) (hd : Dfs (adjOf es back) r (St.zero es.length) t) :
    t.left.countP (fun x => decide (0 < x)) = t.order.length := by
  have hw := adjOf_within hid back
  have hl : (St.zero es.length).left.length = es.length := by simp [St.zero]
  have hst := Dfs.stays hw hl h0 hr (St.zero_at _ _) hd
  have h1 := Dfs.sumEq hw hl h0 hr (St.zero_at _ _) hd
  rw [St.zero_zeros] at h1
  have h2 : (St.zero es.length).order.length = 0 := rfl
  have h3 := List.length_eq_countP_add_countP (fun x : Int => decide (0 < x)) (l := t.left)
  have h4 : t.left.countP (fun a => decide ¬ (decide (0 < a) = true)) = t.zeros := by
    unfold St.zeros List.count
    apply List.countP_congr
    intro a ha
    obtain ⟨i, hi, rfl⟩ := List.getElem_of_mem ha
    have : 0 ≤ t.left[i] := by
      have := (hst.1 (i : Int)).2 (St.zero_at _ _)
      rw [St.at_get t (i : Int) (by simpa using hi)] at this
      simpa using this
    simp
    omega
  have h5 := hd.len
  omega

theorem last_order {adj : Int → List Int} {r : Int} {s t : St} (hd : Dfs adj r s t) : ∃ o, t.order = o ++ [r] := by
  cases hd with
  | mk h => exact ⟨_, rfl⟩

theorem kept_of_dfs {es : List (List Int)} {back : Bool} {r : Int} {t : St} (hid : ∀ l ∈ es, ∀ x ∈ l, 0 ≤ x ∧ x < (es.length : Int)) (h0 : 0 ≤ r) (hd : Dfs (adjOf es back) r (St.zero es.length) t) :
    ∀ i : Nat, i < t.left.length → t.left.getD i 0 ≠ 0 → (i : Int) ∈ t.order := by
  intro i _ hne
  have hw := adjOf_within hid back
  rcases (Dfs.kept h0 (fun u x hx => (hw u x hx).1) hd).1 i (by omega) (by simpa [St.at] using hne) with h1 | h1
  · exact absurd (St.zero_at _ _) h1
  · exact h1
end Go.Proofs.Qxb6003663a
