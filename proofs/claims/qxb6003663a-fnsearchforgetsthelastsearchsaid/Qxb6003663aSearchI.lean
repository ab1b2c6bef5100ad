/-
  The memory of a search under way, and what each step makes of it.
-/
import Derived.Test.Qxb6003663aSearchB
namespace Go.Proofs.Qxb6003663a
open Go.RowKit

def AA (N gl gp gq g : Nat) : Prop := g < N ∨ g = gl ∨ g = gp ∨ g = gq
theorem AA.ne {N gl gp gq g : Nat} (h : ¬ AA N gl gp gq g) : N ≤ g ∧ g ≠ gl ∧ g ≠ gp ∧ g ≠ gq := by
  unfold AA at h
  omega
structure SFix (es : List (List Int)) (bb N gl gp gq : Nat) (f : Fx) : Prop where
  h1 : bb < N
  h2 : N ≤ gl
  h3 : gl < gp
  h4 : gp < gq
  lf : f.lf = slc gl es.length
  ps : f.ps = slc gp es.length
  ln : f.ln = slc gq es.length

theorem Orw.empty {w : World} {t : TypeId} {oa : Option Addr} {n oc : Nat} {order : List Int} {A : Nat → Prop} (h : Orw w t (.slice oa n oc) order A) : Orw w t (.slice oa 0 oc) [] A := by
  refine ⟨⟨rfl, ?_⟩, fun g hg => h.apart g (by cases oa <;> exact hg)⟩
  rcases h.owns.2 with ⟨h1, h0⟩ | ⟨g, cap, cur, h1, hb, hg, c1, c2, c3, c4⟩
  · left
    simp only [Value.slice.injEq] at h1
    obtain ⟨rfl, _, rfl⟩ := h1
    exact ⟨rfl, rfl⟩
  · right
    simp only [Value.slice.injEq] at h1
    obtain ⟨rfl, _, rfl⟩ := h1
    exact ⟨g, oc, cur, rfl, hb, hg, by simp, c2, c3, by simp⟩
theorem path_empty {w : World} {oa : Option Addr} {n m oc : Nat} {xs : List Value} (h : w.ownsRow 0 65 2 (.slice oa n oc) m xs) : w.ownsRow 0 65 2 (.slice oa 0 oc) ([] : List (Int × Nat)).length (([] : List (Int × Nat)).flatMap cc) := by
  refine ⟨rfl, ?_⟩
  rcases h.2 with ⟨h1, h0⟩ | ⟨g, cap, cur, h1, hb, hg, c1, c2, c3, c4⟩
  · left
    simp only [Value.slice.injEq] at h1
    obtain ⟨rfl, _, rfl⟩ := h1
    exact ⟨rfl, rfl⟩
  · right
    simp only [Value.slice.injEq] at h1
    obtain ⟨rfl, _, rfl⟩ := h1
    exact ⟨g, oc, cur, rfl, hb, hg, by simp, c2, c3, by simp⟩
theorem own_block (oa : Option Addr) (n m c d : Nat) : (Value.slice oa n c).ownBlock = (Value.slice oa m d).ownBlock := by cases oa <;> rfl

structure SInv (es : List (List Int)) (bb N gl gp gq : Nat) (f : Fx) (w : World) (s : St) (p : List (Int × Nat)) (gk cap : Nat) (wk : Int) (ov : Value) : Prop where
  fix : SFix es bb N gl gp gq f
  gr : Gr (fun b => bb < b ∧ b < N) w f.ev es
  len : s.left.length = es.length
  left : Own ic 1 w 21 gl es.length s.left
  o1 : ∃ y, y.length = es.length ∧ Own nc 1 w 3 gp es.length y
  o2 : ∃ y, y.length = es.length ∧ Own nc 1 w 3 gq es.length y
  ord : Orw w 50 ov s.order (AA N gl gp gq)
  path : Own cc 2 w 65 gk cap p
  apart : ¬ AA N gl gp gq gk
  ne : ov.ownBlock ≠ some gk
  box : Bx w bb f wk ov (.slice (some ⟨gk, 0, none⟩) p.length cap)

section
variable {es : List (List Int)} {bb N gl gp gq : Nat} {f : Fx} {w w' w'' : World} {s : St} {p : List (Int × Nat)} {gk cap : Nat} {wk : Int} {ov : Value}

theorem SInv.turnLeft (h : SInv es bb N gl gp gq f w s p gk cap wk ov) {left : List Int} (ho : Own ic 1 w' 21 gl es.length left) (hl : left.length = es.length) (hk : Kp (fun j => j = gl) w w') : SInv es bb N gl gp gq f w' ⟨left, s.order⟩ p gk cap wk ov := by
  have f1 := h.fix.h1; have f2 := h.fix.h2; have f3 := h.fix.h3; have f4 := h.fix.h4
  have ha := AA.ne h.apart
  obtain ⟨y1, l1, o1⟩ := h.o1
  obtain ⟨y2, l2, o2⟩ := h.o2
  exact ⟨h.fix, h.gr.kp hk (fun b hb e => by omega), hl, ho, ⟨y1, l1, o1.kp hk (fun e => by omega)⟩, ⟨y2, l2, o2.kp hk (fun e => by omega)⟩, h.ord.kp hk (fun g hg e => (h.ord.apart g hg).2 (.inr (.inl e))), h.path.kp hk (fun e => by omega), h.apart, h.ne, h.box.kp hk (fun e => by omega)⟩

theorem SInv.turnPath (h : SInv es bb N gl gp gq f w s p gk cap wk ov) {p' : List (Int × Nat)} (ho : Own cc 2 w' 65 gk cap p') (hl : p'.length = p.length) (hk : Kp (fun j => j = gk) w w') : SInv es bb N gl gp gq f w' s p' gk cap wk ov := by
  have f1 := h.fix.h1; have f2 := h.fix.h2; have f3 := h.fix.h3; have f4 := h.fix.h4
  have ha := AA.ne h.apart
  obtain ⟨y1, l1, o1⟩ := h.o1
  obtain ⟨y2, l2, o2⟩ := h.o2
  exact ⟨h.fix, h.gr.kp hk (fun b hb e => by omega), h.len, h.left.kp hk (fun e => by omega), ⟨y1, l1, o1.kp hk (fun e => by omega)⟩, ⟨y2, l2, o2.kp hk (fun e => by omega)⟩, h.ord.kp hk (fun g hg e => h.ne (e ▸ hg)), ho, h.apart, h.ne, by rw [hl]; exact h.box.kp hk (fun e => by omega)⟩

/-- A store into the record, where the path may be cut short. -/
theorem SInv.turnBox (h : SInv es bb N gl gp gq f w s p gk cap wk ov) {wk' : Int} {q : List (Int × Nat)} (hq : ∃ c, p = q ++ c) (hb : Bx w' bb f wk' ov (.slice (some ⟨gk, 0, none⟩) q.length cap)) (hk : Kp (fun j => j = bb) w w') : SInv es bb N gl gp gq f w' s q gk cap wk' ov := by
  have f1 := h.fix.h1; have f2 := h.fix.h2; have f3 := h.fix.h3; have f4 := h.fix.h4
  have ha := AA.ne h.apart
  obtain ⟨y1, l1, o1⟩ := h.o1
  obtain ⟨y2, l2, o2⟩ := h.o2
  obtain ⟨c, rfl⟩ := hq
  have hp := h.path.take cc_len (n := q.length) (by simp)
  rw [List.take_left] at hp
  exact ⟨h.fix, h.gr.kp hk (fun b hb e => by omega), h.len, h.left.kp hk (fun e => by omega), ⟨y1, l1, o1.kp hk (fun e => by omega)⟩, ⟨y2, l2, o2.kp hk (fun e => by omega)⟩, h.ord.kp hk (fun g hg e => by have := AA.ne (h.ord.apart g hg).2; omega), hp.kp hk (fun e => by omega), h.apart, h.ne, hb⟩

theorem SInv.push (h : SInv es bb N gl gp gq f w s p gk cap wk ov) {p' : List (Int × Nat)} {g' cap' : Nat} (ho : Own cc 2 w' 65 g' cap' p') (hk : Kp (fun j => j = gk) w w') (hg : g' = gk ∨ w.heap.size ≤ g')
    (hb : Bx w'' bb f wk ov (.slice (some ⟨g', 0, none⟩) p'.length cap')) (hk2 : Kp (fun j => j = bb) w' w'') : SInv es bb N gl gp gq f w'' s p' g' cap' wk ov := by
  have f1 := h.fix.h1; have f2 := h.fix.h2; have f3 := h.fix.h3; have f4 := h.fix.h4
  have ha := AA.ne h.apart
  obtain ⟨y1, l1, o1⟩ := h.o1
  obtain ⟨y2, l2, o2⟩ := h.o2
  have hlt := o2.lt
  have hN : ¬ AA N gl gp gq g' := by
    rcases hg with rfl | hg
    · exact h.apart
    · rintro (e | e | e | e) <;> omega
  have hN' := AA.ne hN
  refine ⟨h.fix, (h.gr.kp hk (fun b hb e => by omega)).kp hk2 (fun b hb e => by omega), h.len, (h.left.kp hk (fun e => by omega)).kp hk2 (fun e => by omega), ⟨y1, l1, (o1.kp hk (fun e => by omega)).kp hk2 (fun e => by omega)⟩, ⟨y2, l2, (o2.kp hk (fun e => by omega)).kp hk2 (fun e => by omega)⟩,
    (h.ord.kp hk (fun g hg e => h.ne (e ▸ hg))).kp hk2 (fun g hg e => by have := AA.ne (h.ord.apart g hg).2; omega), ho.kp hk2 (fun e => by omega), hN, ?_, hb⟩
  rcases hg with rfl | hg
  · exact h.ne
  · intro e
    have := (h.ord.apart g' e).1
    omega

theorem SInv.grow (h : SInv es bb N gl gp gq f w s p gk cap wk ov) {order : List Int} {g' cap' : Nat} (ho : Own ic 1 w' 50 g' cap' order) (hk : Kp (fun j => ov.ownBlock = some j) w w') (hg : ov.ownBlock = some g' ∨ w.heap.size ≤ g')
    (hb : Bx w'' bb f wk (.slice (some ⟨g', 0, none⟩) order.length cap') (.slice (some ⟨gk, 0, none⟩) p.length cap)) (hk2 : Kp (fun j => j = bb) w' w'') : SInv es bb N gl gp gq f w'' ⟨s.left, order⟩ p gk cap wk (.slice (some ⟨g', 0, none⟩) order.length cap') := by
  have f1 := h.fix.h1; have f2 := h.fix.h2; have f3 := h.fix.h3; have f4 := h.fix.h4
  have ha := AA.ne h.apart
  obtain ⟨y1, l1, o1⟩ := h.o1
  obtain ⟨y2, l2, o2⟩ := h.o2
  have hlt := o2.lt
  have hpl := h.path.lt
  have hN : ¬ AA N gl gp gq g' := by
    rcases hg with hg | hg
    · exact (h.ord.apart g' hg).2
    · rintro (e | e | e | e) <;> omega
  have hN' := AA.ne hN
  have hA : ∀ g, ov.ownBlock = some g → N ≤ g ∧ g ≠ gl ∧ g ≠ gp ∧ g ≠ gq := fun g hg => AA.ne (h.ord.apart g hg).2
  refine ⟨h.fix, (h.gr.kp hk (fun b hb e => by have := hA b e; omega)).kp hk2 (fun b hb e => by omega), h.len, (h.left.kp hk (fun e => by have := hA _ e; omega)).kp hk2 (fun e => by omega), ⟨y1, l1, (o1.kp hk (fun e => by have := hA _ e; omega)).kp hk2 (fun e => by omega)⟩,
    ⟨y2, l2, (o2.kp hk (fun e => by have := hA _ e; omega)).kp hk2 (fun e => by omega)⟩, ⟨ho.kp hk2 (fun e => by omega), ?_⟩, (h.path.kp hk (fun e => h.ne e)).kp hk2 (fun e => by omega), h.apart, ?_, hb⟩
  · intro g hg
    obtain rfl : g' = g := by simpa [Value.ownBlock] using hg
    exact ⟨Nat.lt_of_lt_of_le ho.lt hk2.size, hN⟩
  · intro e
    obtain rfl : g' = gk := by simpa [Value.ownBlock] using e
    rcases hg with hg | hg
    · exact h.ne hg
    · omega
end

/-! ### The plain side -/
structure PInv (adj : Int → List Int) (n : Nat) (r : Int) (s : St) (p : List (Int × Nat)) : Prop where
  done : ∀ s', Done adj p s s' → Dfs adj r (St.zero n) s'
  rng : ∀ c ∈ p, 0 ≤ c.1 ∧ c.1 < (n : Int)
  sum : s.order.length + p.length + s.zeros ≤ n

theorem PInv.start {adj : Int → List Int} {n : Nat} {r : Int} (h0 : 0 ≤ r) (hr : r < (n : Int)) : PInv adj n r ((St.zero n).enter r) [(r, 0)] := by
  refine ⟨fun s' h => h.start, fun c hc => ?_, ?_⟩
  · rw [List.mem_singleton] at hc; subst hc; exact ⟨h0, hr⟩
  · have h1 := St.enter_zeros (St.zero n) r (by simp [St.zero]; omega) (St.zero_at n r)
    have h2 := St.zero_zeros n
    have h3 : ((St.zero n).enter r).order.length = 0 := rfl
    have h4 : [(r, 0)].length = 1 := rfl
    omega
theorem PInv.skip {adj : Int → List Int} {n : Nat} {r : Int} {s : St} {q : List (Int × Nat)} {v w : Int} {t : Nat} (h : PInv adj n r s (q ++ [(v, t)])) (hw : (adj v)[t]? = some w) (h0 : s.at w ≠ 0) : PInv adj n r s (q ++ [(v, t + 1)]) := by
  refine ⟨fun s' hd => h.done s' (hd.skip hw h0), fun c hc => ?_, by have := h.sum; simpa using this⟩
  rcases List.mem_append.1 hc with hc | hc
  · exact h.rng c (List.mem_append_left _ hc)
  · rw [List.mem_singleton] at hc; subst hc; exact h.rng (v, t) (by simp)
theorem PInv.take {adj : Int → List Int} {n : Nat} {r : Int} {s : St} {q : List (Int × Nat)} {v w : Int} {t : Nat} (h : PInv adj n r s (q ++ [(v, t)])) (hw : (adj v)[t]? = some w) (h0 : s.at w = 0) (hl : s.left.length = n) (hw0 : 0 ≤ w) (hwn : w < (n : Int)) : PInv adj n r (s.enter w) (q ++ [(v, t + 1)] ++ [(w, 0)]) := by
  refine ⟨fun s' hd => h.done s' (hd.take hw h0), fun c hc => ?_, ?_⟩
  · rcases List.mem_append.1 hc with hc | hc
    · rcases List.mem_append.1 hc with hc | hc
      · exact h.rng c (List.mem_append_left _ hc)
      · rw [List.mem_singleton] at hc; subst hc; exact h.rng (v, t) (by simp)
    · rw [List.mem_singleton] at hc; subst hc; exact ⟨hw0, hwn⟩
  · have h1 := St.enter_zeros s w (by omega) h0
    have h2 := h.sum
    have h3 : (s.enter w).order = s.order := rfl
    simp only [List.length_append, List.length_singleton, h3] at h2 ⊢
    omega
theorem PInv.pop {adj : Int → List Int} {n : Nat} {r : Int} {s : St} {q : List (Int × Nat)} {v : Int} {t : Nat} (h : PInv adj n r s (q ++ [(v, t)])) (ht : (adj v).length ≤ t) : PInv adj n r (s.leave v) q := by
  refine ⟨fun s' hd => h.done s' (hd.pop ht), fun c hc => h.rng c (List.mem_append_left _ hc), ?_⟩
  have h1 := St.leave_zeros s v
  have h2 := h.sum
  have h3 : (s.leave v).order.length = s.order.length + 1 := by simp [St.leave]
  simp only [List.length_append, List.length_singleton] at h2
  omega
end Go.Proofs.Qxb6003663a
