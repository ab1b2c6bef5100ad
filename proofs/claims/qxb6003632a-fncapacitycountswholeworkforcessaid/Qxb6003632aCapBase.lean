/-
  Small laws on rows that the capacity's texts need (as in Leaf2, PushW, PushLaw, without what those import).
-/
import Derived.Test.Qxb6003632aBase
import Derived.Test.Qxb6003632aGen3
import Derived.Deep.DeepCutAuto
namespace Go.Proofs.Qxb6003632a
open Go.RowKit

theorem at_row {w : World} {b : Nat} {l : List Value} {t : TypeId} {fz : Nat × Nat} (h : w.heap[b]? = some (.cells l.toArray t fz)) : At w b 0 l := by
  intro j v hv
  rw [Nat.zero_add]
  simp [World.cell?, h, hv]
theorem Sl.kp0 {α : Type} {f : α → List Value} {k : Nat} {S : Nat → Prop} {w w' : World} {b : Nat} {v : Value} {es : List α} (h : Sl f k w b v es) (q : Kp S w w') (hn : 0 < es.length → ¬ S b) : Sl f k w' b v es := by
  obtain ⟨a, c, rfl, h⟩ := h
  exact ⟨a, c, rfl, fun i hi => let ⟨o, ha, he⟩ := h i hi; ⟨o, ha, he.kp q (hn (by omega))⟩⟩
theorem own_one {α : Type} {f : α → List Value} {k : Nat} {w : World} {t : TypeId} {g : Nat} {x : α} (hf : ∀ a, (f a).length = k) : Own f k w t g 1 [x] ↔ w.heap[g]? = some (.cells (f x).toArray t (0, 0)) := by
  rw [own_iff hf]
  constructor
  · rintro ⟨cur, hg, _, _, h3, h4⟩
    simp at h3 h4
    rw [List.take_of_length_le (by simp [h3])] at h4
    rw [hg, ← h4]
  · intro h
    exact ⟨_, h, by simp, by simp [maxLen], by simp [hf], by simp; rw [List.take_of_length_le (by rw [hf]; omega)]⟩
end Go.Proofs.Qxb6003632a
