/-
  The rows of this seat as plain data: lists of int32, lists of such lists.
-/
import Derived.Test.Qxb6003663aProg
import Derived.Test.Qxb6003663aText4
import Derived.Test.Qxb6003663aGen4
import Derived.Test.Qxb6003663aPlain
import Derived.Deep.DeepCutAuto
namespace Go.Proofs.Qxb6003663a
open Go.RowKit

def ic (x : Int) : List Value := [.int .i32 x]
def nc (x : Int) : List Value := [.int .i64 x]
def vc (v : Value) : List Value := [v]
def bc (b : Bool) : List Value := [.bool b]
def cc (p : Int × Nat) : List Value := [.int .i32 p.1, .int .i64 p.2]
theorem ic_len (x : Int) : (ic x).length = 1 := rfl
theorem nc_len (x : Int) : (nc x).length = 1 := rfl
theorem vc_len (x : Value) : (vc x).length = 1 := rfl
theorem bc_len (x : Bool) : (bc x).length = 1 := rfl
theorem cc_len (x : Int × Nat) : (cc x).length = 2 := rfl
theorem ic_one (x : Int) : ∀ u ∈ ic x, u.oneCell' = true := by intro u hu; simp only [ic, List.mem_singleton] at hu; subst hu; rfl
theorem nc_one (x : Int) : ∀ u ∈ nc x, u.oneCell' = true := by intro u hu; simp only [nc, List.mem_singleton] at hu; subst hu; rfl
theorem bc_one (x : Bool) : ∀ u ∈ bc x, u.oneCell' = true := by intro u hu; simp only [bc, List.mem_singleton] at hu; subst hu; rfl
theorem cc_one (x : Int × Nat) : ∀ u ∈ cc x, u.oneCell' = true := by
  intro u hu; simp only [cc, List.mem_cons, List.not_mem_nil, or_false] at hu; rcases hu with rfl | rfl <;> rfl

theorem Try.mixed : Try.prog.follows .mixedOrders = true := by kernel_rfl
theorem Try.size21 : (Try.prog.info? 21).map (·.size) = some 1 := by kernel_rfl
theorem Try.size50 : (Try.prog.info? 50).map (·.size) = some 1 := by kernel_rfl
theorem Try.size3 : (Try.prog.info? 3).map (·.size) = some 1 := by kernel_rfl
theorem Try.size4 : (Try.prog.info? 4).map (·.size) = some 1 := by kernel_rfl
theorem Try.size33 : (Try.prog.info? 33).map (·.size) = some 1 := by kernel_rfl
theorem Try.size56 : (Try.prog.info? 56).map (·.size) = some 1 := by kernel_rfl
theorem Try.size65 : (Try.prog.info? 65).map (·.size) = some 2 := by kernel_rfl
theorem Try.info21 : (Try.prog.info? 21).map (fun i => (i.zero, i.size, i.bytes)) = some (some (.int .i32 0), 1, 4) := by kernel_rfl
theorem Try.info50 : (Try.prog.info? 50).map (fun i => (i.zero, i.size, i.bytes)) = some (some (.int .i32 0), 1, 4) := by kernel_rfl
theorem Try.info3 : (Try.prog.info? 3).map (fun i => (i.zero, i.size, i.bytes)) = some (some (.int .i64 0), 1, 8) := by kernel_rfl
theorem Try.info4 : (Try.prog.info? 4).map (fun i => (i.zero, i.size, i.bytes)) = some (some (.bool false), 1, 1) := by kernel_rfl
theorem Try.info33 : (Try.prog.info? 33).map (fun i => (i.zero, i.size, i.bytes)) = some (some (.slice none 0 0), 1, 24) := by kernel_rfl
theorem Try.info56 : (Try.prog.info? 56).map (fun i => (i.zero, i.size, i.bytes)) = some (some (.slice none 0 0), 1, 24) := by kernel_rfl
theorem Try.info65 : (Try.prog.info? 65).map (fun i => (i.zero, i.size, i.bytes)) = some (some (.agg #[.int .i32 0, .int .i64 0]), 2, 16) := by kernel_rfl

theorem at_row {w : World} {b : Nat} {l : List Value} {t : TypeId} {fz : Nat × Nat} (h : w.heap[b]? = some (.cells l.toArray t fz)) : At w b 0 l := by
  intro j v hv
  rw [Nat.zero_add]
  simp [World.cell?, h, hv]
theorem at_one {w : World} {b o : Nat} {v : Value} (h : At w b o [v]) : w.cell? ⟨b, o, none⟩ = some v := h 0 v rfl
theorem Sl.get {α : Type} {f : α → List Value} {k : Nat} {w : World} {b n c : Nat} {a : Option Addr} {es : List α} (h : Sl f k w b (.slice a n c) es) {i : Nat} (hi : i < es.length) : ∃ o, a = some ⟨b, o, none⟩ ∧ At w b (o + i * k) (f es[i]) := by
  obtain ⟨a', c', he, hh⟩ := h
  simp only [Value.slice.injEq] at he
  obtain ⟨rfl, _, _⟩ := he
  exact hh i hi
theorem Sl.kp0 {α : Type} {f : α → List Value} {k : Nat} {S : Nat → Prop} {w w' : World} {b : Nat} {v : Value} {es : List α} (h : Sl f k w b v es) (q : Kp S w w') (hn : 0 < es.length → ¬ S b) : Sl f k w' b v es := by
  obtain ⟨a, c, rfl, h⟩ := h
  exact ⟨a, c, rfl, fun i hi => let ⟨o, ha, he⟩ := h i hi; ⟨o, ha, he.kp q (hn (by omega))⟩⟩
theorem Sl.lt {α : Type} {f : α → List Value} {k : Nat} {w : World} {b : Nat} {v : Value} {es : List α} (hf : ∀ a, (f a).length = k) (hk : 0 < k) (h : Sl f k w b v es) (h0 : 0 < es.length) : b < w.heap.size := by
  obtain ⟨a, c, rfl, h⟩ := h
  obtain ⟨o, _, he⟩ := h 0 h0
  have hl : 0 < (f es[0]).length := by rw [hf]; exact hk
  exact World.block_lt_of_cell? w _ (he 0 _ (List.getElem?_eq_getElem hl))
theorem sl_nil {α : Type} {f : α → List Value} {k : Nat} {w : World} {b : Nat} {c : Nat} {a : Option Addr} : Sl f k w b (.slice a 0 c) ([] : List α) := ⟨a, c, rfl, fun i hi => by simp at hi⟩

/-- An address and the cells of a slice of one-cell elements. -/
theorem Sl.cell {α : Type} {f : α → List Value} {w : World} {b n c : Nat} {a : Option Addr} {es : List α} {g : α → Value} (hg : ∀ x, f x = [g x]) (h : Sl f 1 w b (.slice a n c) es) {i : Nat} (hi : i < es.length) :
    ∃ o, a = some ⟨b, o, none⟩ ∧ w.cell? ⟨b, o + i, none⟩ = some (g es[i]) := by
  obtain ⟨o, h1, h2⟩ := h.get hi
  rw [hg, Nat.mul_one] at h2
  exact ⟨o, h1, at_one h2⟩
theorem Own.cell {α : Type} {f : α → List Value} {w : World} {t : TypeId} {g cap : Nat} {es : List α} {p : α → Value} (hg : ∀ x, f x = [p x]) (h : Own f 1 w t g cap es) {i : Nat} (hi : i < es.length) :
    w.cell? ⟨g, i, none⟩ = some (p es[i]) := by
  have h2 := h.at (fun x => by rw [hg]; rfl) hi
  rw [hg, Nat.mul_one] at h2
  exact at_one h2

/-- A list of lists. -/
def Gr (B : Nat → Prop) (w : World) (v : Value) (es : List (List Int)) : Prop :=
  ∃ b vs, (0 < es.length → B b) ∧ Sl vc 1 w b v vs ∧ vs.length = es.length ∧ ∀ i (h : i < es.length) (h' : i < vs.length), ∃ bi, (0 < es[i].length → B bi) ∧ Sl ic 1 w bi vs[i] es[i]

theorem Gr.kp {B S : Nat → Prop} {w w' : World} {v : Value} {es : List (List Int)} (h : Gr B w v es) (q : Kp S w w') (hn : ∀ b, B b → ¬ S b) : Gr B w' v es := by
  obtain ⟨b, vs, h1, h2, h3, h4⟩ := h
  refine ⟨b, vs, h1, h2.kp0 q (fun h => hn _ (h1 (by omega))), h3, fun i hi hi' => ?_⟩
  obtain ⟨bi, h5, h6⟩ := h4 i hi hi'
  exact ⟨bi, h5, h6.kp0 q (fun h => hn _ (h5 h))⟩
theorem Gr.mono {B C : Nat → Prop} {w : World} {v : Value} {es : List (List Int)} (h : Gr B w v es) (hn : ∀ b, b < w.heap.size → B b → C b) : Gr C w v es := by
  obtain ⟨b, vs, h1, h2, h3, h4⟩ := h
  refine ⟨b, vs, fun h0 => hn b (h2.lt vc_len (by omega) (by omega)) (h1 h0), h2, h3, fun i hi hi' => ?_⟩
  obtain ⟨bi, h5, h6⟩ := h4 i hi hi'
  exact ⟨bi, fun h0 => hn bi (h6.lt ic_len (by omega) h0) (h5 h0), h6⟩
theorem Gr.slice {B : Nat → Prop} {w : World} {v : Value} {es : List (List Int)} (h : Gr B w v es) : ∃ a c, v = .slice a es.length c := by
  obtain ⟨b, vs, _, ⟨a, c, rfl, _⟩, h3, _⟩ := h
  exact ⟨a, c, by rw [h3]⟩
theorem Gr.list {B : Nat → Prop} {w : World} {a : Option Addr} {n c : Nat} {es : List (List Int)} (h : Gr B w (.slice a n c) es) {i : Nat} (hi : i < es.length) :
    ∃ b o x d bi, a = some ⟨b, o, none⟩ ∧ B b ∧ w.cell? ⟨b, o + i, none⟩ = some (.slice x es[i].length d) ∧ (0 < es[i].length → B bi) ∧ Sl ic 1 w bi (.slice x es[i].length d) es[i] := by
  obtain ⟨b, vs, h1, h2, h3, h4⟩ := h
  obtain ⟨bi, h5, h6⟩ := h4 i hi (by omega)
  obtain ⟨o, ho, hc⟩ := h2.cell (g := fun v => v) (fun _ => rfl) (i := i) (by omega)
  have h6' := h6
  obtain ⟨x, d, he, _⟩ := h6
  rw [he] at hc h6'
  exact ⟨b, o, x, d, bi, ho, h1 (by omega), hc, h5, h6'⟩
end Go.Proofs.Qxb6003663a
