/-
  Rows.FnQueueScriptAgreesWithModelSaid: the walked law, lifted to the row.
-/
import Derived.Test.Qxb6003632aOpen
import Derived.Test.Qxb6003632aScriptLaw
namespace Go.Proofs.Qxb6003632a
open Go.ChangeShapes Go.WideShapes Go.ChangeAt Go.RowKit

section
variable {H : Type} {enc : TypeId × Value → H} {P : Program} {w : World} {base : Nat} {spare : Nat → Bool} {held : Bool}
/-- A slice that came in: its elements, where its elements' cells read. -/
theorem open_row {α : Type} [Inhabited α] {f : α → List Value} {k : Nat} (hk : 0 < k) (t e : TypeId) (ht : P.underlying t = some (.slice e)) (hc : P.cellsOf e = k)
    (read : ∀ fuel cs x, DataW.trod enc P w base spare held fuel e cs = some x → ∃ a, cs = f a)
    {a0 : Option Addr} {l0 c0 : Nat} {d : DataW H} {p : List MemPlace} (h : DataW.Trod enc P w base spare held t (.slice a0 l0 c0) d p) : ∃ b es, Sl f k w b (.slice a0 l0 c0) es ∧ es.length ≤ maxLen := by
  obtain ⟨fuel, hf⟩ := h
  rcases Go.Deep.open_slice ht hf with ⟨hcs, _⟩ | ⟨a, len, cap, m, n, D, Pl, hcs, _, hl, hm, hmm, _, hall⟩
  · simp [Value.cells] at hcs
    obtain ⟨rfl, rfl, rfl⟩ := hcs
    exact ⟨0, [], ⟨none, 0, rfl, fun i hi => by simp at hi⟩, by simp⟩
  · simp [Value.cells] at hcs
    obtain ⟨rfl, rfl, rfl⟩ := hcs
    have hlm : l0 ≤ m := by rw [hmm]; split <;> omega
    have hex : ∀ i, i < l0 → ∃ e : α, a.spot = none ∧ At w a.block (a.off + i * k) (f e) := by
      intro i hi
      obtain ⟨cs', h1, h2⟩ := hall i (by omega)
      obtain ⟨e, rfl⟩ := read _ _ _ h2
      rw [hc] at h1
      have := at_of_cells h1 (by omega)
      refine ⟨e, ?_⟩
      obtain ⟨b, o, s⟩ := a
      unfold Addr.add at this
      split at this
      · rename_i h0
        have hi0 : i = 0 := by
          rcases Nat.eq_zero_or_pos i with h | h
          · exact h
          · have := Nat.mul_pos h hk
            omega
        subst hi0
        simpa using ‹_ ∧ _›
      · have hs : s = none := by
          obtain ⟨cs0, g1, _⟩ := hall 0 (by omega)
          rw [hc] at g1
          have := (at_of_cells g1 (by omega)).1
          simpa [Addr.add] using this
        exact ⟨hs, this.2⟩
    obtain ⟨F, hF⟩ := Go.Deep.choose_lt hex
    refine ⟨a.block, (List.range l0).map F, ⟨some a, c0, by simp, fun i hi => ⟨a.off, ?_, ?_⟩⟩, by simp; exact Nat.le_trans hl hm⟩
    · have := (hF i (by simpa using hi)).1
      obtain ⟨b, o, s⟩ := a
      subst this; rfl
    · have := (hF i (by simpa using hi)).2
      simpa using this
end

theorem Try.cells4 : Try.prog.cellsOf 4 = 1 := by kernel_rfl

set_option maxRecDepth 100000 in
theorem script_lifted (os : Os) (started : os.Started) (H : Type) (enc : TypeId × Value → H) :
    ReturnsInHanded {} Try.checked os 6 .any (Rows.fnQueueScriptAgreesWithModelSpec.pre6 enc Try.prog Try.f6 Rows.fnQueueScriptAgreesWithModelRow.domain false) (Rows.fnQueueScriptAgreesWithModelSpec.post enc Try.prog Try.f6 false true false false) := by
  refine returnsInHanded_of_change (C := Try.checked) Try.own started (by kernel_rfl) Try.func6
    (ChangeSpec.witness6 (enc := enc) (C := Try.checked) false ⟨#[], #[.slice none 0 0, .slice none 0 0], []⟩ 8 (by kernel_rfl) (by kernel_rfl) (by kernel_rfl) (by kernel_rfl)) ?_
  intro W base args ds gs before hval0 hW hcnd _
  have hval : ∀ (j : Nat) t v, Try.f6.params[j]? = some t → args[j]? = some v → Value.okWide Try.prog W .any base t v := hval0
  have hW' := hW
  obtain ⟨p, q, hA0, hV, rfl, hfz, hnd⟩ := hW
  have hA : DataW.TrodAll enc Try.prog W 0 (fun _ => true) true Try.f6.params.toList args.toList ds p := hA0
  rw [Try.params6] at hA hval
  obtain ⟨v0, vs0, d0, ds0, p0, q0, hargs, rfl, rfl, h0, r0⟩ := trodAll_cons hA
  obtain ⟨v1, vs1, d1, ds1, p1, q1, rfl, rfl, rfl, h1, r1⟩ := trodAll_cons r0
  obtain ⟨rfl, rfl, rfl⟩ := trodAll_nil r1
  obtain rfl : args = #[v0, v1] := by cases args; simp_all
  obtain ⟨rfl, rfl⟩ := trodVars_none hV
  obtain ⟨a0, len0, cap0, rfl⟩ := okWide_slice Try.underlying37 (hval 0 37 v0 rfl rfl)
  obtain ⟨a1, len1, cap1, rfl⟩ := okWide_slice Try.underlying57 (hval 1 57 v1 rfl rfl)
  have k0 := h0
  have lt0 : ∀ x ∈ p0, x.block < W.heap.size := by obtain ⟨m, hm⟩ := k0; exact DataW.trod_lt m _ _ _ hm
  have k1 := h1
  have lt1 : ∀ x ∈ p1, x.block < W.heap.size := by obtain ⟨m, hm⟩ := k1; exact DataW.trod_lt m _ _ _ hm
  obtain ⟨b, es, hs, hn⟩ := open_evs h0
  obtain ⟨b2, ps, hs2, hn2⟩ := open_row (f := bcell) (k := 1) (by omega) 57 4 Try.underlying57 Try.cells4 (fun _ _ _ h => let ⟨z, h1, _⟩ := DataW.trod_bool Try.underlying4 h; ⟨z, h1⟩) h1
  clear hA0 hval0
  refine (scriptLaw_calls _ _ b b2 es ps W hs hs2 hn hn2).mono fun r W' ⟨he, hk⟩ => ?_
  subst he
  have bel := hk.below
  exact ⟨_, rfl, _, _, _, [], _, [], hW', trodAll_mk1 (shut_bool Try.underlying4 _), (trodAll_cons_mk (Below.trod Try.laidOut (by kernel_rfl) (of_decide_eq_true (by kernel_rfl)) k0 bel lt0) (trodAll_cons_mk (Below.trod Try.laidOut (by kernel_rfl) (of_decide_eq_true (by kernel_rfl)) k1 bel lt1) trodAll_mk0)), rfl, bel.frame _, fun h => by cases h⟩

theorem script_over : Rows.fnQueueScriptAgreesWithModelRow.holds Try.pinned (OpenSpec.ofChange Rows.fnQueueScriptAgreesWithModelSpec) :=
  OpenClaim.holds_of_wide 6 Try.f6 rfl rfl rfl rfl rfl rfl rfl ⟨rfl, rfl, rfl, rfl, rfl⟩ rfl rfl rfl rfl rfl (by kernel_rfl) Try.func6 (by kernel_rfl)
    (of_decide_eq_true (by kernel_rfl)) (by unfold Func.isWrapper; first | (rw [if_pos (by decide +kernel)]; kernel_rfl) | (rw [if_neg (by decide +kernel)]; exact ⟨rfl, rfl⟩))
    (fun os started H enc _ => script_lifted os started H enc)

theorem queueScript_proved : Rows.FnQueueScriptAgreesWithModelSaid := script_over
end Go.Proofs.Qxb6003632a
