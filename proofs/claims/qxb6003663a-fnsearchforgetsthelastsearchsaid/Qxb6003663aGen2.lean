/-
  append onto a row of the call's own; make; copy.
-/
import Derived.Test.Qxb6003663aGen
namespace Go.Proofs.Qxb6003663a
open Go.RowKit

section
variable {α : Type} {f : α → List Value} {k : Nat} {P : Program} {w : World}

theorem own_of_row {e : TypeId} {v : Value} {es : List α} (hf : ∀ a, (f a).length = k) {base : Nat} (h : w.ownsRow base e k v es.length (es.flatMap f)) (hv : v ≠ .slice none 0 0) :
    ∃ g cap, v = .slice (some ⟨g, 0, none⟩) es.length cap ∧ Own f k w e g cap es ∧ base ≤ g := by
  rcases h.2 with ⟨h1, _⟩ | ⟨g, cap, cur, rfl, hb, hg, c1, c2, c3, c4⟩
  · exact absurd h1 hv
  · exact ⟨g, cap, rfl, (own_iff hf).2 ⟨cur, hg, c1, c2, c3, c4⟩, hb⟩

/-- What append makes. -/
theorem run_append_row (hf : ∀ a, (f a).length = k) (hk : 0 < k) (h1 : ∀ a, ∀ u ∈ f a, u.oneCell' = true) (t ty e : TypeId) (i : TypeInfo) (z : Value) (bytes : Nat) (ht : P.underlying t = some (.slice e)) (hi : P.info? e = some i)
    (hz : i.zero = some z) (hsize : i.size = k) (hby : i.bytes = bytes) (hzs : z.cells.size = k)
    (v : Value) (es : List α) (hown : w.ownsRow 0 e k v es.length (es.flatMap f)) (b o c : Nat) (fs : List α) (hat : At w b o (fs.flatMap f)) (hm : 1 ≤ fs.length)
    (hn : es.length + fs.length ≤ 1000000) (hb : bytes ≤ 1000) :
    ∃ g cap w', (Builtin.append_ #[t, t] ty #[v, .slice (some ⟨b, o, none⟩) fs.length c]).run P w = .ok (.slice (some ⟨g, 0, none⟩) (es ++ fs).length cap) w' ∧ Own f k w' e g cap (es ++ fs) ∧
      Kp (fun j => v.ownBlock = some j) w w' ∧ (v.ownBlock = some g ∨ w.heap.size ≤ g) := by
  have hnews : ∀ j u, (fs.flatMap f)[j]? = some u → w.cell? ((⟨b, o, none⟩ : Addr).add j) = some u := fun j u hu => by rw [Addr.add_lit]; exact hat j u hu
  have hone : ∀ u ∈ fs.flatMap f, u.oneCell' = true := fun u hu => by obtain ⟨a, _, ha⟩ := List.mem_flatMap.1 hu; exact h1 a u ha
  have hbytes : (es.length + fs.length) * bytes ≤ 140737488355328 := by
    calc (es.length + fs.length) * bytes ≤ 1000000 * 1000 := Nat.mul_le_mul hn hb
      _ ≤ _ := by omega
  have h63 : es.length + fs.length ≤ maxLen := by simp only [maxLen]; omega
  have hlen : (es ++ fs).length = es.length + fs.length := by simp
  have hfl : es.flatMap f ++ fs.flatMap f = (es ++ fs).flatMap f := by simp
  rcases hown.2 with ⟨rfl, h0⟩ | ⟨g, cap, cur, rfl, hbg, hg, c1, c2, c3, c4⟩
  · -- the nil slice
    have hown' : w.ownsRow w.heap.size e k (.slice none 0 0) es.length (es.flatMap f) := ⟨hown.1, .inl ⟨rfl, h0⟩⟩
    obtain ⟨v', w', hr, ho, hg, hv⟩ := run_append_own (P := P) w w.heap.size t ty e i z k bytes ht hi hz hsize hby hzs hk _ _ _ hown' ⟨b, o, none⟩ fs.length c _ (flat_len hf fs) hnews hone h63 hbytes (Nat.le_refl _)
    rw [← hlen, hfl] at ho
    obtain ⟨g, cap, rfl, hO, hge⟩ := own_of_row hf ho (fun e => by have := hv.1 e; omega)
    exact ⟨g, cap, w', hr, hO, (Kp.refl _ w).grown hg (fun j hj hlt => hj), .inr hge⟩
  · by_cases hroom : es.length + fs.length ≤ cap
    · obtain ⟨w', hr, ho, hgr⟩ := run_append_fits (P := P) w 0 t ty e i k ht hi hsize g es.length cap _ hown ⟨b, o, none⟩ fs.length c _ (flat_len hf fs) hnews hone hroom
      rw [← hlen] at hr
      refine ⟨g, cap, w', hr, ?_, (Kp.refl _ w).grown hgr (fun j hj hlt => hj), .inl rfl⟩
      rw [← hlen, hfl] at ho
      exact ho
    · obtain ⟨v', w', hr, ho, hg', hv⟩ := run_append_own (P := P) w 0 t ty e i z k bytes ht hi hz hsize hby hzs hk _ _ _ hown ⟨b, o, none⟩ fs.length c _ (flat_len hf fs) hnews hone h63 hbytes (Nat.zero_le _)
      have holds : ∀ j u, (es.flatMap f)[j]? = some u → w.cell? ((⟨g, 0, none⟩ : Addr).add j) = some u := World.ownsRow.cells hown (g := g) rfl
      have hr2 := run_append_grow (P := P) w t ty e i z ht hi hz ⟨g, 0, none⟩ es.length cap _ (by rw [hsize]; exact hown.1) holds ⟨b, o, none⟩ fs.length c _ (by rw [hsize]; exact flat_len hf fs) hnews (by omega) (by omega) (growslice_fits (by omega) (by rw [hby]; exact hbytes))
      rw [hr] at hr2
      simp only [Result.ok.injEq] at hr2
      obtain ⟨rfl, _⟩ := hr2
      rw [← hlen, hfl] at ho
      obtain ⟨g', cap', e', hO, _⟩ := own_of_row hf ho (by simp)
      have e1 : w.heap.size = g' := by
        simp only [Value.slice.injEq, Option.some.injEq, Addr.mk.injEq] at e'
        exact e'.1.1
      refine ⟨g', cap', w', by rw [hr, ← hlen, e'], hO, (Kp.refl _ w).grown hg' (fun j hj hlt => hj), .inr (by omega)⟩

variable {ops : Array Oper} {rest : List Oper} {o : Oper} {a : Act} {Q : Exit → Act → World → Prop}

/-- append onto a row of the call's own, or onto the nil slice. -/
theorem wpList_append_row (hgd : o.guard = none) (s x : Operand) (t : TypeId) (ho : o.op = .call { callee := .builtin .append, args := #[s, x], argTypes := #[t, t] })
    (hf : ∀ a, (f a).length = k) (hk : 0 < k) (h1 : ∀ a, ∀ u ∈ f a, u.oneCell' = true) (e : TypeId) (z : Value) (bytes : Nat) (ht : P.underlying t = some (.slice e)) (hinf : (P.info? e).map (fun i => (i.zero, i.size, i.bytes)) = some (some z, k, bytes)) (hzs : z.cells.size = k)
    (v : Value) (es : List α) (hs : a.eval s = v) (hown : w.ownsRow 0 e k v es.length (es.flatMap f)) (b off m c : Nat) (fs : List α) (hx : a.eval x = .slice (some ⟨b, off, none⟩) m c) (hfm : m = fs.length) (hat : At w b off (fs.flatMap f)) (hm : 1 ≤ fs.length)
    (hn : es.length + fs.length ≤ 1000000) (hb : bytes ≤ 1000)
    (h : ∀ g cap w', Own f k w' e g cap (es ++ fs) → Kp (fun j => v.ownBlock = some j) w w' → (v.ownBlock = some g ∨ w.heap.size ≤ g) → wpList P ops Q rest (a.put o.dst (.slice (some ⟨g, 0, none⟩) (es ++ fs).length cap)) w') :
    wpList P ops Q (o :: rest) a w := by
  refine wpList_plain hgd fun K hK => ?_
  subst hfm
  obtain ⟨i, hi, hz0, hz1, hz2⟩ := info_parts hinf
  obtain ⟨g, cap, w', hr, h2, h3, h4⟩ := run_append_row (P := P) (w := w) hf hk h1 t o.type e i z bytes ht hi hz0 hz1 hz2 hzs v es hown b off c fs hat hm hn hb
  unfold Oper.wp execOp
  simp only [ho, resolve, invoke, builtin, Sem.run_bind, Sem.run_pure, Result.andThen_ok, List.map_toArray, List.map_cons, List.map_nil, hs, hx, hr]
  exact hK _ _ (h g cap w' h2 h3 h4)

/-- copy, element by element: what is read is read before anything is stored. -/
theorem run_copy_cells (w : World) (dT sT ty elem : TypeId) (g off dLen dCap : Nat) (so : Option Addr) (sLen sCap : Nat) (cur : Array Value) (t : TypeId) (cs : List Value)
    (hu : P.underlying dT = some (.slice elem)) (hs : (P.info? elem).map (·.size) = some k)
    (hg : w.heap[g]? = some (.cells cur t (0, 0))) (hn : cs.length = Nat.min sLen dLen * k)
    (hsrc : ∀ ad, so = some ad → ∀ j v, cs[j]? = some v → w.cell? (ad.add j) = some v) (hnone : so = none → sLen = 0) (hfit : off + cs.length ≤ cur.size) (h1 : ∀ v ∈ cs, v.oneCell' = true) :
    (Builtin.copy_ #[dT, sT] ty #[.slice (some ⟨g, off, none⟩) dLen dCap, .slice so sLen sCap]).run P w =
      .ok (goInt (Nat.min sLen dLen)) (w.setRow g (cur.toList.take off ++ cs ++ cur.toList.drop (off + cs.length)).toArray) := by
  have hst := run_storeCells_at P g off t cs 0 cur w hg (by simpa using hfit) h1
  simp only [Nat.add_zero] at hst
  cases hq : P.info? elem with
  | none => simp [hq] at hs
  | some i =>
    have hi : i.size = k := by simpa [hq] using hs
    cases so with
    | none =>
      have h0 := hnone rfl
      subst h0
      have hcs : cs = [] := List.eq_nil_of_length_eq_zero (by rw [hn]; simp)
      subst hcs
      simp only [List.append_nil] at hst
      simp [Builtin.copy_, run_underlying hu, Builtin.lenOf, Builtin.firstCells, sizeOf, typeInfo, hq, Nat.min_def, hst]
    | some ad =>
      have hl := run_loadCells_list (P := P) w ad cs (hsrc ad rfl)
      rw [hn] at hl
      simp [Builtin.copy_, run_underlying hu, Builtin.lenOf, Builtin.firstCells, sizeOf, typeInfo, hq, hi, hl, hst]

/-- A whole row of the call's own is filled from a slice of its length. -/
theorem wpList_copy_all (hgd : o.guard = none) (d s : Operand) (dT sT : TypeId) (ho : o.op = .call { callee := .builtin .copy, args := #[d, s], argTypes := #[dT, sT] })
    (hf : ∀ a, (f a).length = k) (h1 : ∀ a, ∀ u ∈ f a, u.oneCell' = true) (e : TypeId) (ht : P.underlying dT = some (.slice e)) (hs : (P.info? e).map (·.size) = some k)
    (g n cap : Nat) (zs : List α) (hd : a.eval d = .slice (some ⟨g, 0, none⟩) n cap) (hown : Own f k w e g cap zs) (hzn : zs.length = n) (b : Nat) (v : Value) (es : List α) (hv : a.eval s = v) (hsl : Sl f k w b v es) (hen : es.length = n)
    (h : ∀ w', Own f k w' e g cap es → Kp (fun j => j = g) w w' → wpList P ops Q rest (a.put o.dst (.int .i64 n)) w') : wpList P ops Q (o :: rest) a w := by
  refine wpList_plain hgd fun K hK => ?_
  obtain ⟨so, c, rfl, hat⟩ := hsl
  obtain ⟨cur, hg, c1, c2, c3, c4⟩ := (own_iff hf).1 hown
  have hlen := flat_len hf es
  have hmin : Nat.min es.length n = n := by rw [hen]; simp
  have hr := run_copy_cells (P := P) (k := k) w dT sT o.type e g 0 n cap so es.length c cur e (es.flatMap f) ht hs hg (by rw [hlen, hmin, hen]) ?_ ?_ ?_ ?_
  · simp only [Nat.zero_add, List.take_zero, List.nil_append, hmin] at hr
    unfold Oper.wp execOp
    simp only [ho, resolve, invoke, builtin, Sem.run_bind, Sem.run_pure, Result.andThen_ok, List.map_toArray, List.map_cons, List.map_nil, hd, hv, hr]
    refine hK _ _ (h _ ?_ ⟨rfl, rfl, rfl, by simp, fun j _ hj => setRow_other w g j _ hj⟩)
    refine (own_iff hf).2 ⟨_, setRow_heap w g cur _ e _ hg, by omega, c2, ?_, ?_⟩
    · have : n * k ≤ cap * k := Nat.mul_le_mul_right k (by omega)
      simp [hlen, hen, c3]
      omega
    · rw [← hlen]
      exact List.take_left
  · intro ad had j u hu
    have hj : j < es.length * k := by rw [← hlen]; exact (List.getElem?_eq_some_iff.1 hu).1
    have hk0 : 0 < k := by
      rcases Nat.eq_zero_or_pos k with h0 | h0
      · rw [h0] at hj; simp at hj
      · exact h0
    have hq : j / k < es.length := (Nat.div_lt_iff_lt_mul hk0).2 hj
    obtain ⟨off, ha, hc⟩ := hat (j / k) hq
    rw [had] at ha
    obtain rfl := Option.some.inj ha
    have hr : j % k < k := Nat.mod_lt _ hk0
    have e1 : j / k * k + j % k = j := by rw [Nat.mul_comm]; exact Nat.div_add_mod j k
    have e2 := flat_get hf es (j / k) (j % k) hq hr
    rw [e1, hu] at e2
    have := hc (j % k) u e2.symm
    rw [Addr.add_lit]
    rw [Nat.add_assoc, e1] at this
    exact this
  · intro hso
    rcases Nat.eq_zero_or_pos es.length with h0 | h0
    · exact h0
    · obtain ⟨off, ha, _⟩ := hat 0 h0
      rw [hso] at ha; cases ha
  · rw [hlen, hen, c3, Nat.zero_add]; exact Nat.mul_le_mul_right k (by omega)
  · intro u hu
    obtain ⟨x, _, hx⟩ := List.mem_flatMap.1 hu
    exact h1 x u hx

theorem flat_rep (hf : ∀ a, (f a).length = k) (z : α) (cs : Array Value) (hz : cs.toList = f z) (n : Nat) : (madeCells cs (n * k)).toList = (List.replicate n z).flatMap f := by
  apply List.ext_getElem?
  intro j
  have hcs : cs.size = k := by rw [← Array.length_toList, hz, hf]
  by_cases hj : j < n * k
  · have hk0 : 0 < k := by
      rcases Nat.eq_zero_or_pos k with h0 | h0
      · rw [h0] at hj; simp at hj
      · exact h0
    have hq : j / k < n := (Nat.div_lt_iff_lt_mul hk0).2 hj
    have hr : j % k < k := Nat.mod_lt _ hk0
    have e1 : j / k * k + j % k = j := by rw [Nat.mul_comm]; exact Nat.div_add_mod j k
    have e2 := flat_get hf (List.replicate n z) (j / k) (j % k) (by simpa using hq) hr
    rw [e1] at e2
    rw [e2, List.getElem_replicate, ← hz]
    simp [madeCells, hj, hcs, hr]
  · have h1 : ((List.replicate n z).flatMap f).length ≤ j := by rw [flat_len hf]; simp; omega
    rw [List.getElem?_eq_none h1]
    simp [madeCells, hj]

/-- make: a new row of zeros. -/
theorem wpList_make_row (hgd : o.guard = none) (l c : Operand) (t : TypeId) (ho : o.op = .makeSlice t l c) (hf : ∀ a, (f a).length = k) (e : TypeId) (z : α) (zv : Value) (bytes : Nat) (ht : P.underlying t = some (.slice e))
    (hinf : (P.info? e).map (fun i => (i.zero, i.size, i.bytes)) = some (some zv, k, bytes)) (hz : zv.cells.toList = f z) (n : Nat) (L : Int) (hl : a.eval l = .int .i64 L) (hc : a.eval c = .int .i64 L) (hL : L = (n : Int)) (hn : n ≤ 1000000) (hb : bytes ≤ 1000)
    (h : ∀ w', Own f k w' e w.heap.size n (List.replicate n z) → Kp No w w' → wpList P ops Q rest (a.put o.dst (.slice (some ⟨w.heap.size, 0, none⟩) n n)) w') : wpList P ops Q (o :: rest) a w := by
  obtain ⟨i, hi, hz0, hz1, hz2⟩ := info_parts hinf
  have hby : i.bytes * n ≤ 281474976710656 := by
    rw [hz2]
    calc bytes * n ≤ 1000 * 1000000 := Nat.mul_le_mul hb hn
      _ ≤ _ := by omega
  refine wpList_make_full w hgd l c t ho 0 e i zv k ht hi hz0 hz1 .i64 .i64 L L n hl hc hL hL hby (by simp only [maxLen]; omega) (Nat.zero_le _) ?_
  intro w' h1 h2
  refine h w' ?_ ((Kp.refl No w).grown h2 (fun _ h _ => by cases h))
  unfold Own
  rw [flat_rep hf z zv.cells hz n] at h1
  simpa using h1

/-- 's == nil'. -/
theorem run_equal_nil (t e : TypeId) (hu : P.underlying t = some (.slice e)) (x : Option Addr) (n c : Nat) (w : World) : (Op.equal t (.slice x n c) (.slice none 0 0)).run P w = .ok x.isNone w := by
  have key : ∀ d, (Op.equalIn (d + 1) t (.slice x n c) (.slice none 0 0)).run P w = .ok x.isNone w := by
    intro d
    unfold Op.equalIn
    rw [Sem.run_bind, run_underlying hu]
    cases x <;> rfl
  exact key 9999
theorem run_eql_nil (t e : TypeId) (hu : P.underlying t = some (.slice e)) (x : Option Addr) (n c : Nat) (w : World) : (binOp .eql t (.slice x n c) (.slice none 0 0)).run P w = .ok (.bool x.isNone) w := by
  show (do pure (Value.bool (← Op.equal t (.slice x n c) (.slice none 0 0))) : Sem Value).run P w = _
  rw [Sem.run_bind, run_equal_nil t e hu x n c w]
  rfl
theorem run_neq_nil (t e : TypeId) (hu : P.underlying t = some (.slice e)) (x : Option Addr) (n c : Nat) (w : World) : (binOp .neq t (.slice x n c) (.slice none 0 0)).run P w = .ok (.bool !x.isNone) w := by
  show (do pure (Value.bool (!(← Op.equal t (.slice x n c) (.slice none 0 0)))) : Sem Value).run P w = _
  rw [Sem.run_bind, run_equal_nil t e hu x n c w]
  rfl
end
end Go.Proofs.Qxb6003663a
