/-
  make with no elements yet; append within the capacity, from whatever slice.
-/
import Derived.Test.Qxb6003663aGen2
namespace Go.Proofs.Qxb6003663a
open Go.RowKit

section
variable {α : Type} {f : α → List Value} {k : Nat} {P : Program} {w : World}

/-- The cells of a slice that reads as 'es'. -/
theorem sl_cells (hf : ∀ a, (f a).length = k) {b c : Nat} {so : Option Addr} {es : List α} (hsl : Sl f k w b (.slice so es.length c) es) :
    (∀ ad, so = some ad → ∀ j u, (es.flatMap f)[j]? = some u → w.cell? (ad.add j) = some u) ∧ (so = none → es = []) := by
  obtain ⟨so', c', he, hat⟩ := hsl
  simp only [Value.slice.injEq] at he
  obtain ⟨rfl, _, rfl⟩ := he
  constructor
  · intro ad had j u hu
    have hj : j < es.length * k := by rw [← flat_len hf es]; exact (List.getElem?_eq_some_iff.1 hu).1
    have hk0 : 0 < k := by
      rcases Nat.eq_zero_or_pos k with h0 | h0
      · rw [h0] at hj; simp at hj
      · exact h0
    have hq : j / k < es.length := (Nat.div_lt_iff_lt_mul hk0).2 hj
    obtain ⟨off, ha, hc⟩ := hat (j / k) hq
    rw [had] at ha
    obtain rfl := Option.some.inj ha
    have hr : j % k < k := Nat.mod_lt _ hk0
    have e1 : j / k * k + j % k = j := by rw [Nat.mul_comm]; exact Nat.div_add_mod j k
    have e2 := flat_get hf es (j / k) (j % k) hq hr
    rw [e1, hu] at e2
    have := hc (j % k) u e2.symm
    rw [Addr.add_lit]
    rw [Nat.add_assoc, e1] at this
    exact this
  · intro hso
    rcases Nat.eq_zero_or_pos es.length with h0 | h0
    · exact List.eq_nil_of_length_eq_zero h0
    · obtain ⟨off, ha, _⟩ := hat 0 h0
      rw [hso] at ha; cases ha

theorem run_append_room_any (hf : ∀ a, (f a).length = k) (h1 : ∀ a, ∀ u ∈ f a, u.oneCell' = true) (t ty e : TypeId) (ht : P.underlying t = some (.slice e)) (hi : (P.info? e).map (·.size) = some k)
    (g cap : Nat) (es : List α) (hown : Own f k w e g cap es) (b : Nat) (v : Value) (fs : List α) (hsl : Sl f k w b v fs) (hroom : es.length + fs.length ≤ cap) :
    ∃ w', (Builtin.append_ #[t, t] ty #[.slice (some ⟨g, 0, none⟩) es.length cap, v]).run P w = .ok (.slice (some ⟨g, 0, none⟩) (es.length + fs.length) cap) w' ∧ Own f k w' e g cap (es ++ fs) ∧ Kp (fun j => j = g) w w' := by
  obtain ⟨so, c, rfl, hat⟩ := hsl
  obtain ⟨hc, hn⟩ := sl_cells hf (⟨so, c, rfl, hat⟩ : Sl f k w b (.slice so fs.length c) fs)
  obtain ⟨cur, hg, c1, c2, c3, c4⟩ := (own_iff hf).1 hown
  have hlen := flat_len hf fs
  have hfit : es.length * k + (fs.flatMap f).length ≤ cur.size := by rw [hlen, c3, ← Nat.add_mul]; exact Nat.mul_le_mul_right k hroom
  have hst := run_storeCells_at P g (es.length * k) e (fs.flatMap f) 0 cur w hg (by simpa using hfit) (fun u hu => by obtain ⟨x, _, hx⟩ := List.mem_flatMap.1 hu; exact h1 x u hx)
  simp only [Nat.add_zero] at hst
  refine ⟨w.setRow g (cur.toList.take (es.length * k) ++ fs.flatMap f ++ cur.toList.drop (es.length * k + (fs.flatMap f).length)).toArray, ?_, ?_, ⟨rfl, rfl, rfl, by simp, fun j _ hj => setRow_other w g j _ hj⟩⟩
  · cases hq : P.info? e with
    | none => simp [hq] at hi
    | some i =>
      have hik : i.size = k := by simpa [hq] using hi
      cases so with
      | none =>
        have h0 := hn rfl
        subst h0
        simp only [List.flatMap_nil] at hst
        simp [Builtin.append_, run_underlying ht, sizeOf, typeInfo, hq, hik, Builtin.lenOf, c1, Builtin.firstCells, Addr.add_lit, hst]
      | some ad =>
        have hl := run_loadCells_list (P := P) w ad (fs.flatMap f) (hc ad rfl)
        rw [hlen] at hl
        simp [Builtin.append_, run_underlying ht, sizeOf, typeInfo, hq, hik, Builtin.lenOf, hroom, Builtin.firstCells, Addr.add_lit, hl, hst]
  · refine (own_iff hf).2 ⟨_, setRow_heap w g cur _ e _ hg, by simpa using hroom, c2, ?_, ?_⟩
    · simp; simp at hfit; omega
    · have e1 : (es ++ fs).length * k = (es.flatMap f ++ fs.flatMap f).length := by rw [List.length_append, List.length_append, flat_len hf, flat_len hf, Nat.add_mul]
      rw [c4, e1, List.flatMap_append]
      exact List.take_left

variable {ops : Array Oper} {rest : List Oper} {o : Oper} {a : Act} {Q : Exit → Act → World → Prop}

theorem wpList_append_room (hgd : o.guard = none) (s x : Operand) (t : TypeId) (ho : o.op = .call { callee := .builtin .append, args := #[s, x], argTypes := #[t, t] })
    (hf : ∀ a, (f a).length = k) (h1 : ∀ a, ∀ u ∈ f a, u.oneCell' = true) (e : TypeId) (ht : P.underlying t = some (.slice e)) (hi : (P.info? e).map (·.size) = some k)
    (g n cap : Nat) (es : List α) (hs : a.eval s = .slice (some ⟨g, 0, none⟩) n cap) (hn : es.length = n) (hown : Own f k w e g cap es) (b : Nat) (v : Value) (fs : List α) (hv : a.eval x = v) (hsl : Sl f k w b v fs) (hroom : n + fs.length ≤ cap)
    (h : ∀ w', Own f k w' e g cap (es ++ fs) → Kp (fun j => j = g) w w' → wpList P ops Q rest (a.put o.dst (.slice (some ⟨g, 0, none⟩) (n + fs.length) cap)) w') : wpList P ops Q (o :: rest) a w := by
  refine wpList_plain hgd fun K hK => ?_
  subst hn
  obtain ⟨w', hr, h2, h3⟩ := run_append_room_any (P := P) (w := w) hf h1 t o.type e ht hi g cap es hown b v fs hsl hroom
  unfold Oper.wp execOp
  simp only [ho, resolve, invoke, builtin, Sem.run_bind, Sem.run_pure, Result.andThen_ok, List.map_toArray, List.map_cons, List.map_nil, hs, hv, hr]
  exact hK _ _ (h w' h2 h3)

/-- make with no elements and room for n. -/
theorem wpList_make_empty (hgd : o.guard = none) (l c : Operand) (t : TypeId) (ho : o.op = .makeSlice t l c) (e : TypeId) (zv : Value) (bytes : Nat) (ht : P.underlying t = some (.slice e))
    (hinf : (P.info? e).map (fun i => (i.zero, i.size, i.bytes)) = some (some zv, k, bytes)) (n : Nat) (L : Int) (hl : a.eval l = .int .i64 0) (hc : a.eval c = .int .i64 L) (hL : L = (n : Int)) (hn : n ≤ 1000000) (hb : bytes ≤ 1000)
    (h : ∀ w', Own f k w' e w.heap.size n ([] : List α) → Kp No w w' → wpList P ops Q rest (a.put o.dst (.slice (some ⟨w.heap.size, 0, none⟩) 0 n)) w') : wpList P ops Q (o :: rest) a w := by
  obtain ⟨i, hi, hz0, hz1, hz2⟩ := info_parts hinf
  have hby : i.bytes * n ≤ 281474976710656 := by
    rw [hz2]
    calc bytes * n ≤ 1000 * 1000000 := Nat.mul_le_mul hb hn
      _ ≤ _ := by omega
  refine wpList_make_own w hgd l c t ho 0 e i zv k ht hi hz0 hz1 .i64 .i64 L n hl hc hL hby (by simp only [maxLen]; omega) (Nat.zero_le _) ?_
  intro w' h1 h2
  exact h w' h1 ((Kp.refl No w).grown h2 (fun _ h _ => by cases h))
end
end Go.Proofs.Qxb6003663a
