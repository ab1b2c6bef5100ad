/-
  The steps of the search as single cells that are set.
-/
import Derived.Test.Qxb6003663aSearchI
namespace Go.Proofs.Qxb6003663a
open Go.RowKit

section
variable {α : Type} {f : α → List Value} {k : Nat} {w : World} {t : TypeId} {g cap : Nat} {es es' : List α}
theorem Own.frozen (hf : ∀ a, (f a).length = k) (h : Own f k w t g cap es) (o : Nat) : w.frozen? ⟨g, o, none⟩ = false := by
  obtain ⟨cur, hg, _⟩ := (own_iff hf).1 h
  simp [World.frozen?, hg]
theorem Own.setAt (hf : ∀ a, (f a).length = k) (h : Own f k w t g cap es) {off : Nat} {v : Value} (hl : es'.length = es.length) (hes : es'.flatMap f = (es.flatMap f).set off v) : Own f k (w.setCell ⟨g, off, none⟩ v) t g cap es' := by
  obtain ⟨cur, hg, c1, c2, c3, c4⟩ := (own_iff hf).1 h
  refine (own_iff hf).2 ⟨_, heap_setCell_same w g off cur t v hg, by omega, c2, by simpa using c3, ?_⟩
  rw [hl, hes, ← c4, Array.toList_setIfInBounds, List.take_set]
theorem kp_set (w : World) (g off : Nat) (v : Value) : Kp (fun j => j = g) w (w.setCell ⟨g, off, none⟩ v) := Kp.setCell (p := ⟨g, off, none⟩) (Kp.refl (fun j => j = g) w) (fun _ => rfl) v
end

theorem ic_set (l : List Int) (i : Nat) (x : Int) : (l.set i x).flatMap ic = (l.flatMap ic).set i (.int .i32 x) := by
  induction l generalizing i with
  | nil => simp
  | cons a l ih =>
    cases i with
    | zero => simp [ic]
    | succ i => simp only [List.set_cons_succ, List.flatMap_cons, ih]; simp [ic]
theorem vc_set (l : List Value) (i : Nat) (x : Value) : (l.set i x).flatMap vc = (l.flatMap vc).set i x := by
  induction l generalizing i with
  | nil => simp
  | cons a l ih =>
    cases i with
    | zero => simp [vc]
    | succ i => simp only [List.set_cons_succ, List.flatMap_cons, ih]; simp [vc]

section
variable {es : List (List Int)} {bb N gl gp gq : Nat} {f : Fx} {w w' : World} {s : St} {p q : List (Int × Nat)} {gk cap : Nat} {wk : Int} {ov pv : Value}
theorem Bx.setWork (h : Bx w bb f wk ov pv) (wk' : Int) : Bx (w.setCell ⟨bb, 4, none⟩ (.int .i64 wk')) bb f wk' ov pv :=
  Own.setAt vc_len h rfl (vc_set (f.row wk ov pv) 4 (.int .i64 wk'))
theorem Bx.setOrder (h : Bx w bb f wk ov pv) (ov' : Value) : Bx (w.setCell ⟨bb, 6, none⟩ ov') bb f wk ov' pv :=
  Own.setAt vc_len h rfl (vc_set (f.row wk ov pv) 6 ov')
theorem Bx.setPath (h : Bx w bb f wk ov pv) (pv' : Value) : Bx (w.setCell ⟨bb, 7, none⟩ pv') bb f wk ov pv' :=
  Own.setAt vc_len h rfl (vc_set (f.row wk ov pv) 7 pv')
theorem Bx.frozen (h : Bx w bb f wk ov pv) (o : Nat) : w.frozen? ⟨bb, o, none⟩ = false := Own.frozen vc_len h o

theorem SInv.drew (h : SInv es bb N gl gp gq f w s p gk cap wk ov) : SInv es bb N gl gp gq f w.drew s p gk cap wk ov :=
  ⟨h.fix, h.gr, h.len, h.left, h.o1, h.o2, ⟨h.ord.owns, h.ord.apart⟩, h.path, h.apart, h.ne, h.box⟩
theorem SInv.taken {v : Int} {t : Nat} (h : SInv es bb N gl gp gq f w s (q ++ [(v, t)]) gk cap wk ov) : SInv es bb N gl gp gq f (w.setCell ⟨gk, q.length * 2 + 1, none⟩ (.int .i64 (t + 1))) s (q ++ [(v, t + 1)]) gk cap wk ov :=
  h.turnPath (Own.setAt cc_len h.path (by simp) (by rw [cc_set q v t (t + 1)]; rfl)) (by simp) (kp_set _ _ _ _)
theorem SInv.setLeft (h : SInv es bb N gl gp gq f w s p gk cap wk ov) (u : Nat) (x : Int) : SInv es bb N gl gp gq f (w.setCell ⟨gl, u, none⟩ (.int .i32 x)) ⟨s.left.set u x, s.order⟩ p gk cap wk ov :=
  h.turnLeft (Own.setAt ic_len h.left (by simp) (ic_set _ _ _)) (by rw [List.length_set]; exact h.len) (kp_set _ _ _ _)
theorem SInv.setWork (h : SInv es bb N gl gp gq f w s p gk cap wk ov) (wk' : Int) : SInv es bb N gl gp gq f (w.setCell ⟨bb, 4, none⟩ (.int .i64 wk')) s p gk cap wk' ov :=
  h.turnBox ⟨[], by simp⟩ (h.box.setWork wk') (kp_set _ _ _ _)
theorem SInv.popPath {c : Int × Nat} (h : SInv es bb N gl gp gq f w s (q ++ [c]) gk cap wk ov) : SInv es bb N gl gp gq f (w.setCell ⟨bb, 7, none⟩ (.slice (some ⟨gk, 0, none⟩) q.length cap)) s q gk cap wk ov :=
  h.turnBox ⟨[c], rfl⟩ (h.box.setPath _) (kp_set _ _ _ _)
theorem SInv.setPath (h : SInv es bb N gl gp gq f w s p gk cap wk ov) {p' : List (Int × Nat)} {g' cap' n : Nat} (ho : Own cc 2 w' 65 g' cap' p') (hk : Kp (fun j => j = gk) w w') (hg : g' = gk ∨ w.heap.size ≤ g') (hn : n = p'.length) :
    SInv es bb N gl gp gq f (w'.setCell ⟨bb, 7, none⟩ (.slice (some ⟨g', 0, none⟩) n cap')) s p' g' cap' wk ov := by
  have ha := AA.ne h.apart
  have f1 := h.fix.h1
  subst hn
  exact h.push ho hk hg ((h.box.kp hk (fun e => by omega)).setPath _) (kp_set _ _ _ _)
theorem SInv.setOrder (h : SInv es bb N gl gp gq f w s p gk cap wk ov) {order : List Int} {g' cap' n : Nat} (ho : Own ic 1 w' 50 g' cap' order) (hk : Kp (fun j => ov.ownBlock = some j) w w') (hg : ov.ownBlock = some g' ∨ w.heap.size ≤ g') (hn : n = order.length) :
    SInv es bb N gl gp gq f (w'.setCell ⟨bb, 6, none⟩ (.slice (some ⟨g', 0, none⟩) n cap')) ⟨s.left, order⟩ p gk cap wk (.slice (some ⟨g', 0, none⟩) n cap') := by
  have f1 := h.fix.h1
  subst hn
  exact h.grow ho hk hg ((h.box.kp hk (fun e => by have := AA.ne (h.ord.apart bb e).2; omega)).setOrder _) (kp_set _ _ _ _)
end
/-! ### The measure goes down -/
theorem m_skip (dg : Nat → Nat) (n : Nat) (left : List Int) (q : List (Int × Nat)) (z t : Nat) (ht : t < dg z) : zsum dg n left + psum dg (q ++ [((z : Int), t + 1)]) < zsum dg n left + psum dg (q ++ [((z : Int), t)]) := by
  simp only [psum_append, psum_one, Int.toNat_natCast]
  omega
theorem m_take (dg : Nat → Nat) (n : Nat) (left : List Int) (q : List (Int × Nat)) (z t u : Nat) (ht : t < dg z) (hu : u < n) (hl : left.length = n) (h0 : left.getD u 0 = 0) : zsum dg n (left.set u (-1)) + psum dg (q ++ [((z : Int), t + 1)] ++ [((u : Int), 0)]) < zsum dg n left + psum dg (q ++ [((z : Int), t)]) := by
  have := zsum_enter dg n left u hu hl h0
  simp only [psum_append, psum_one, Int.toNat_natCast]
  omega
theorem m_pop (dg : Nat → Nat) (n : Nat) (left : List Int) (q : List (Int × Nat)) (z t : Nat) (x : Int) (hx : x ≠ 0) : zsum dg n (left.set z x) + psum dg q < zsum dg n left + psum dg (q ++ [((z : Int), t)]) := by
  have := zsum_leave dg n left z x hx
  simp only [psum_append, psum_one]
  omega
theorem kp_from {S : Nat → Prop} {bb : Nat} {w w' w'' : World} (h : Kp (fun j => bb ≤ j) w w') (q : Kp S w' w'') (hs : ∀ j, S j → bb ≤ j) : Kp (fun j => bb ≤ j) w w'' := h.trans q (fun i _ e => hs i e)
theorem kp_fromSet {bb g off : Nat} {v : Value} {w w' : World} (h : Kp (fun j => bb ≤ j) w w') (hg : bb ≤ g) : Kp (fun j => bb ≤ j) w (w'.setCell ⟨g, off, none⟩ v) := kp_from h (kp_set _ _ _ _) (fun j e => by omega)
end Go.Proofs.Qxb6003663a
