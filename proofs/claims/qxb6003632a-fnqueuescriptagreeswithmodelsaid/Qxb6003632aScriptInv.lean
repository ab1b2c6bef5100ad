import Derived.Test.Qxb6003632aTakeW
namespace Go.Proofs.Qxb6003632a
open Go.RowKit

/-- The queue and the model, side by side. -/
structure SInv (wA w' : World) (bq gm n nx : Nat) (hs ms : List Ev) (vq : Value) : Prop where
  box : Box w' bq 45 vq
  row : w'.ownsRow 0 48 7 vq hs.length (hs.flatMap Ev.cells)
  new : ∀ k, vq.ownBlock = some k → wA.heap.size ≤ k
  own : Own Ev.cells 7 w' 40 gm n ms
  perm : hs.Perm ms
  heap : Heap hs
  len : ms.length ≤ nx
  nxt : nx ≤ n
  kp : Kp (fun k => k = bq ∨ k = gm) wA w'

theorem SInv.then {wA w1 w2 : World} {bq gm n nx : Nat} {hs ms : List Ev} {vq : Value} (h : SInv wA w1 bq gm n nx hs ms vq) (k : Kp No w1 w2) : SInv wA w2 bq gm n nx hs ms vq :=
  ⟨h.box.kp k (no_not _), k.owns h.row (fun _ _ => no_not _), h.new, h.own.kp k (no_not _), h.perm, h.heap, h.len, h.nxt, h.kp.then k⟩

theorem SInv.sl {wA w1 : World} {bq gm n nx : Nat} {hs ms : List Ev} {vq : Value} (h : SInv wA w1 bq gm n nx hs ms vq) : ∃ a c b, vq = .slice a hs.length c ∧ Sl Ev.cells 7 w1 b vq hs := by
  by_cases hv : vq = .slice none 0 0
  · have h0 : hs.length = 0 := by
      rcases h.row.2 with ⟨_, h1⟩ | ⟨g, cap, cur, h1, _⟩
      · have := flat_len ev_len hs
        omega
      · rw [hv] at h1; cases h1
    exact ⟨none, 0, 0, by rw [hv, h0], none, 0, by rw [hv, h0], fun i hi => by omega⟩
  · obtain ⟨g, cap, rfl, ho, _⟩ := own_of_row ev_len h.row hv
    exact ⟨_, _, g, rfl, ho.sl ev_len⟩

theorem SInv.pos {wA w1 : World} {bq gm n nx : Nat} {hs ms : List Ev} {vq : Value} (h : SInv wA w1 bq gm n nx hs ms vq) (h0 : 0 < hs.length) : ∃ g cap, vq = .slice (some ⟨g, 0, none⟩) hs.length cap ∧ Own Ev.cells 7 w1 48 g cap hs ∧ wA.heap.size ≤ g := by
  by_cases hv : vq = .slice none 0 0
  · exfalso
    rcases h.row.2 with ⟨_, h1⟩ | ⟨g, cap, cur, h1, _⟩
    · have := flat_len ev_len hs
      omega
    · rw [hv] at h1; cases h1
  · obtain ⟨g, cap, rfl, ho, _⟩ := own_of_row ev_len h.row hv
    exact ⟨g, cap, rfl, ho, h.new g rfl⟩

theorem bool_at {w : World} {b : Nat} {v : Value} {ps : List Bool} (h : Sl bcell 1 w b v ps) {s : Nat} (hs : s < ps.length) : ∃ o c, v = .slice (some ⟨b, o, none⟩) ps.length c ∧ w.cell? ⟨b, o + s, none⟩ = some (.bool ps[s]) := by
  obtain ⟨a, c, rfl, h⟩ := h
  obtain ⟨o, rfl, h1⟩ := h s hs
  refine ⟨o, c, rfl, ?_⟩
  have := h1 0 (.bool ps[s]) rfl
  simpa using this

theorem bsl_lt {w : World} {b : Nat} {v : Value} {ps : List Bool} (h : Sl bcell 1 w b v ps) (h0 : 0 < ps.length) : b < w.heap.size := by
  obtain ⟨o, c, _, h1⟩ := bool_at h h0
  have : ∃ x, w.heap[b]? = some x := by
    simp only [World.cell?] at h1
    cases e : w.heap[b]? with
    | none => rw [e] at h1; cases h1
    | some x => exact ⟨x, rfl⟩
  obtain ⟨x, hx⟩ := this
  exact (Array.getElem?_eq_some_iff.1 hx).1

/-- The pop of the queue and the take of the model. -/
theorem SInv.pop {wA w1 w2 : World} {bq gm n nx g cap : Nat} {hs ms hs' ms' : List Ev} {top : Ev} {vq : Value} (h : SInv wA w1 bq gm n nx hs ms vq) (hbox : Box w2 bq 45 (.slice (some ⟨g, 0, none⟩) hs'.length cap)) (hg : wA.heap.size ≤ g)
    (ho : Own Ev.cells 7 w2 48 g cap hs') (hp : (top :: hs').Perm hs) (hh : Heap hs → Heap hs') (hm : (top :: ms').Perm ms) (hl : ms'.length + 1 = ms.length) (ho2 : Own Ev.cells 7 w2 40 gm n ms') (hk : Kp (fun k => k = bq ∨ k = gm) wA w2) :
    SInv wA w2 bq gm n nx hs' ms' (.slice (some ⟨g, 0, none⟩) hs'.length cap) :=
  ⟨hbox, ho, fun k e => by cases e; exact hg, ho2, ((hp.trans h.perm).trans hm.symm).cons_inv, hh h.heap, by have := h.len; omega, h.nxt, hk⟩

end Go.Proofs.Qxb6003632a
