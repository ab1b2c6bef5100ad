/-
  The contract of capacity.
-/
import Derived.Test.Qxb6003632aCapBase
import Derived.Test.Qxb6003632aFloat2
import Derived.WalkLawsBesides
namespace Go.Proofs.Qxb6003632a
open Go.RowKit

def icell (z : Int) : List Value := [.int .i64 z]
theorem i_len (z : Int) : (icell z).length = 1 := rfl
theorem i_one (z : Int) : ∀ u ∈ icell z, u.oneCell' = true := by
  intro u hu
  simp only [icell, List.mem_singleton] at hu
  subst hu; rfl
def fcell (b : Nat) : List Value := [.float .f64 b]
theorem f_len (b : Nat) : (fcell b).length = 1 := rfl
theorem f_one (b : Nat) : ∀ u ∈ fcell b, u.oneCell' = true := by
  intro u hu
  simp only [fcell, List.mem_singleton] at hu
  subst hu; rfl

structure Ct where
  id : ByteArray
  x : Int
  y : Int
  cap : Int
def Ct.cells (c : Ct) : List Value := [.string c.id, .int .i64 c.x, .int .i64 c.y, .int .i64 c.cap]
def Ct.val (c : Ct) : Value := .agg #[.string c.id, .int .i64 c.x, .int .i64 c.y, .int .i64 c.cap]
def zeroCt : Ct := ⟨ByteArray.empty, 0, 0, 0⟩
theorem ct_len (c : Ct) : c.cells.length = 4 := rfl
theorem ct_one (c : Ct) : ∀ u ∈ c.cells, u.oneCell' = true := by
  intro u hu
  simp only [Ct.cells, List.mem_cons, List.not_mem_nil, or_false] at hu
  rcases hu with rfl | rfl | rfl | rfl <;> rfl
theorem ct_at {w : World} {b o : Nat} {c : Ct} (h : At w b o c.cells) : w.cell? ⟨b, o, none⟩ = some (.string c.id) ∧ w.cell? ⟨b, o + 1, none⟩ = some (.int .i64 c.x) ∧ w.cell? ⟨b, o + 2, none⟩ = some (.int .i64 c.y) ∧
    w.cell? ⟨b, o + 3, none⟩ = some (.int .i64 c.cap) := ⟨h 0 _ rfl, h 1 _ rfl, h 2 _ rfl, h 3 _ rfl⟩

theorem Try.size34 : (Try.prog.info? 34).map (·.size) = some 4 := by kernel_rfl
theorem Try.info34 : (Try.prog.info? 34).map (fun i => (i.zero, i.size, i.bytes)) = some (some zeroCt.val, 4, 40) := by kernel_rfl
theorem Try.size2 : (Try.prog.info? 2).map (·.size) = some 1 := by kernel_rfl
theorem Try.info2 : (Try.prog.info? 2).map (fun i => (i.zero, i.size, i.bytes)) = some (some (.int .i64 0), 1, 8) := by kernel_rfl
theorem Try.size35 : (Try.prog.info? 35).map (·.size) = some 1 := by kernel_rfl
theorem Try.info35 : (Try.prog.info? 35).map (fun i => (i.zero, i.size, i.bytes)) = some (some (.float .f64 0), 1, 8) := by kernel_rfl

/-! ### Sums -/
def Bnd (z : Int) : Prop := 1 ≤ z ∧ z ≤ 4294967296
theorem sum_step (l : List Int) (i : Nat) (h : i < l.length) : (l.take (i + 1)).sum = (l.take i).sum + l[i] := by
  rw [List.take_succ_eq_append_getElem h, List.sum_append]
  simp
theorem sum_bnd {l : List Int} (h : ∀ z ∈ l, Bnd z) : (l.length : Int) ≤ l.sum ∧ l.sum ≤ (l.length : Int) * 4294967296 := by
  induction l with
  | nil => simp
  | cons a l ih =>
    have h1 := ih (fun z hz => h z (List.mem_cons_of_mem _ hz))
    have h2 := h a (List.mem_cons_self ..)
    unfold Bnd at h2
    rw [List.sum_cons, List.length_cons]
    omega
theorem sum_take {l : List Int} (h : ∀ z ∈ l, Bnd z) (i : Nat) (hn : l.length ≤ 20000) : 0 ≤ (l.take i).sum ∧ (l.take i).sum ≤ 85899345920000 := by
  have h1 := sum_bnd (l := l.take i) (fun z hz => h z (List.mem_of_mem_take hz))
  have h2 : (l.take i).length ≤ 20000 := by rw [List.length_take]; omega
  omega

/-- What float64's quotient of two whole numbers gives. -/
def Quo (C S x : Nat) : Prop := F64.div (fl C) (fl S) = some x ∨ (F64.div (fl C) (fl S) = none ∧ F64.order x x = none)

theorem order_nan (t : Nat) : F64.order ((t % 2) * 2 ^ 63 + 0x7ff0000000000000 + 1 + (t / 2) % (2 ^ 52 - 1)) ((t % 2) * 2 ^ 63 + 0x7ff0000000000000 + 1 + (t / 2) % (2 ^ 52 - 1)) = none := by
  have hr : ∃ neg fr, F64.read ((t % 2) * 2 ^ 63 + 0x7ff0000000000000 + 1 + (t / 2) % (2 ^ 52 - 1)) = .nan neg fr := by
    unfold Ieee.Format.read
    rw [f_sign, f_binade, f_inf]
    have h1 : (t / 2) % (2 ^ 52 - 1) < 2 ^ 52 - 1 := Nat.mod_lt _ (by decide)
    generalize (t / 2) % (2 ^ 52 - 1) = s at h1
    have h2 : ((t % 2) * 2 ^ 63 + 0x7ff0000000000000 + 1 + s) % 9223372036854775808 = 9218868437227405312 + 1 + s := by omega
    simp only [h2]
    rw [if_neg (by omega), if_neg (by omega), if_neg (by omega)]
    exact ⟨_, _, rfl⟩
  obtain ⟨neg, fr, h⟩ := hr
  unfold Ieee.Format.order
  rw [h]
  rfl

theorem fl_int (z : Int) (h : 0 ≤ z) : FloatKind.nearest .f64 z = fl z.toNat := by
  unfold FloatKind.nearest FloatKind.encode fl
  have h1 : decide (z < 0) = false := decide_eq_false (by omega)
  rw [h1]
  have h2 : z.natAbs = z.toNat := by omega
  rw [h2]
  rfl

theorem run_quo (P : Program) (t : TypeId) (C S : Nat) (w : World) : ∃ x, Quo C S x ∧ ((binOp .quo t (.float .f64 (fl C)) (.float .f64 (fl S))).run P w = .ok (.float .f64 x) w ∨ (binOp .quo t (.float .f64 (fl C)) (.float .f64 (fl S))).run P w = .ok (.float .f64 x) w.drew) := by
  cases h : F64.div (fl C) (fl S) with
  | some x =>
    refine ⟨x, .inl h, .inl ?_⟩
    show (Op.floatArith .quo .f64 (fl C) (fl S)).run P w = _
    unfold Op.floatArith
    have h' : FloatKind.f64.format.div (fl C) (fl S) = some x := h
    simp [h']
  | none =>
    refine ⟨_, .inr ⟨h, order_nan (w.tape w.drawn (.nanBits .f64 (fl C) (fl S)))⟩, .inr ?_⟩
    show (Op.floatArith .quo .f64 (fl C) (fl S)).run P w = _
    unfold Op.floatArith
    have h' : FloatKind.f64.format.div (fl C) (fl S) = none := h
    simp [h', Question.cut, Question.forced]

theorem csl_get {w : World} {b n c : Nat} {a : Option Addr} {es : List Ct} (h : Sl Ct.cells 4 w b (.slice a n c) es) {i : Nat} (hi : i < es.length) : ∃ o, a = some ⟨b, o, none⟩ ∧ At w b (o + i * 4) es[i].cells := by
  obtain ⟨a', c', he, hh⟩ := h
  simp only [Value.slice.injEq] at he
  obtain ⟨rfl, _, _⟩ := he
  exact hh i hi
theorem isl_get {w : World} {b n c : Nat} {a : Option Addr} {es : List Int} (h : Sl icell 1 w b (.slice a n c) es) {i : Nat} (hi : i < es.length) : ∃ o, a = some ⟨b, o, none⟩ ∧ w.cell? ⟨b, o + i, none⟩ = some (.int .i64 es[i]) := by
  obtain ⟨a', c', he, hh⟩ := h
  simp only [Value.slice.injEq] at he
  obtain ⟨rfl, _, _⟩ := he
  obtain ⟨o, ha, h1⟩ := hh i hi
  refine ⟨o, ha, ?_⟩
  have := h1 0 (.int .i64 es[i]) rfl
  simpa using this

set_option maxHeartbeats 1000000 in
theorem capacity_calls (bl bs bc : Nat) (vs vc : Value) (subs : List Int) (cts : List Ct) (w : World) (hl : w.cell? ⟨bl, 2, none⟩ = some vs) (hs : Sl icell 1 w bs vs subs) (hc : Sl Ct.cells 4 w bc vc cts)
    (hn1 : subs.length ≤ 20000) (hn2 : cts.length ≤ 20000) (hb1 : ∀ z ∈ subs, Bnd z) (hb2 : ∀ z ∈ cts.map Ct.cap, Bnd z) :
    Calls Try.prog 26 #[.pointer (some ⟨bl, 0, none⟩), vc] w fun r w' => ∃ x, r = .returned (.float .f64 x) ∧ Quo (cts.map Ct.cap).sum.toNat subs.sum.toNat x ∧ Kp No w w' := by
  have hs0 := hs
  have hc0 := hc
  obtain ⟨sa, sc, rfl, hat⟩ := hs
  clear hat
  obtain ⟨ac, cc, rfl, hat⟩ := hc
  clear hat
  have hlm : (cts.map Ct.cap).length = cts.length := List.length_map _
  have HB1 : Hid (∀ z ∈ subs, Bnd z) := hb1
  have HB2 : Hid (∀ z ∈ cts.map Ct.cap, Bnd z) := hb2
  clear hb1 hb2
  go_enter Try.func26, Try.ntmps26
  go_wp2_with fail
  go_loopw [5, 13] (fun tc ti w' => ∃ (i : Nat) (z : Int), i ≤ cts.length ∧ z = ((cts.map Ct.cap).take i).sum ∧ tc = .int .i64 z ∧ ti = .int .i64 i ∧ Kp No w w') (fun _ ti _ => cts.length - (intOf ti).toNat)
  case atStart => exact ⟨0, 0, by omega, by simp, rfl, rfl, Kp.refl _ _⟩
  case round =>
    obtain ⟨i, z, hi, hz, rfl, rfl, hk⟩ := hrel
    have HZ : Hid (z = ((cts.map Ct.cap).take i).sum) := hz
    have hzb : 0 ≤ z ∧ z ≤ 85899345920000 := by
      have := sum_take HB2.out i (by rw [hlm]; exact hn2)
      rw [← hz] at this
      exact this
    obtain ⟨hz0, hz1⟩ := hzb
    clear hz
    by_cases hlt : i < cts.length
    · obtain ⟨o, ha, hat⟩ := csl_get hc0 hlt
      subst ha
      obtain ⟨p0, p1, p2, p3⟩ := ct_at (hat.kp hk (no_not _))
      have HS : Hid (Sl Ct.cells 4 w bc _ cts) := hc0
      clear hc0 hat
      have hcb : 1 ≤ cts[i].cap ∧ cts[i].cap ≤ 4294967296 := HB2.out _ (List.mem_map.2 ⟨_, List.getElem_mem hlt, rfl⟩)
      obtain ⟨hcb0, hcb1⟩ := hcb
      have hst := sum_step (cts.map Ct.cap) i (by rw [hlm]; exact hlt)
      rw [List.getElem_map] at hst
      have HST : Hid (((cts.map Ct.cap).take (i + 1)).sum = ((cts.map Ct.cap).take i).sum + cts[i].cap) := hst
      clear hst
      go_wp2_with (refine wpList_store_own rfl 34 _ _ rfl ct_len 34 wr.heap.size 1 [zeroCt] 0 cts[i] _ rfl (by rfl) cts[i].val rfl rfl (ct_one _) Try.size34 (by exact (own_one ct_len).2 (heap_alloc_new _ _)) (by simp) ?_; intro w8 ho9 hk9; obtain ⟨t0, t1, t2, t3⟩ := ct_at (at_row ((own_one ct_len).1 ho9)); simp only [Nat.zero_add] at t0 t1 t2 t3)
      have hk10 : Kp No w w8 := (hk.alloc _).trans hk9 (fun q hq e => by have := hk.size; omega)
      clear hk9 ho9 t0 t1 t2 t3 p0 p1 p2 p3
      go_roundw
      case rel =>
        refine ⟨i + 1, z + cts[i].cap, by omega, ?_, rfl, by go_num, hk10⟩
        rw [HST.out, HZ.out]
      case measure => simp [intOf]; omega
    · have hie : z = (cts.map Ct.cap).sum := by
        have := HZ.out
        rw [List.take_of_length_le (by rw [hlm]; omega)] at this
        exact this
      clear HZ
      have HZ : Hid (z = (cts.map Ct.cap).sum) := hie
      clear hie
      have hl2 := hk.cell hl (no_not _)
      have hs2 := hs0.kp hk (no_not _)
      clear hl hs0 hc0
      go_wp2_with fail
      go_loopw [6, 10, 27] (fun tc _ ti w' => ∃ (i : Nat) (y : Int), i ≤ subs.length ∧ y = (subs.take i).sum ∧ tc = .int .i64 y ∧ ti = .int .i64 i ∧ Kp No w w' ∧ Sl icell 1 w' bs (.slice sa subs.length sc) subs) (fun _ _ ti _ => subs.length - (intOf ti).toNat)
      case atStart => exact ⟨0, 0, by omega, by simp, rfl, rfl, hk, hs2⟩
      case round =>
        clear hk hs2 hl2
        obtain ⟨j, y, hj, hy, rfl, rfl, hk, hs2⟩ := hrel
        have HY : Hid (y = (subs.take j).sum) := hy
        have hyb : 0 ≤ y ∧ y ≤ 85899345920000 := by
          have := sum_take HB1.out j hn1
          rw [← hy] at this
          exact this
        obtain ⟨hy0, hy1⟩ := hyb
        clear hy
        by_cases hlt2 : j < subs.length
        · obtain ⟨o, ha, hat⟩ := isl_get hs2 hlt2
          subst ha
          have hcb : 1 ≤ subs[j] ∧ subs[j] ≤ 4294967296 := HB1.out _ (List.getElem_mem hlt2)
          obtain ⟨hcb0, hcb1⟩ := hcb
          have HST : Hid ((subs.take (j + 1)).sum = (subs.take j).sum + subs[j]) := sum_step subs j hlt2
          go_wp2_with fail
          go_roundw
          case rel =>
            refine ⟨j + 1, y + subs[j], by omega, ?_, rfl, by go_num, hk, hs2⟩
            rw [HST.out, HY.out]
          case measure => simp [intOf]; omega
        · have hye : y = subs.sum := by
            have := HY.out
            rw [List.take_of_length_le (by omega)] at this
            exact this
          clear HY
          have HY : Hid (y = subs.sum) := hye
          clear hye
          obtain ⟨x, hx, hr⟩ := run_quo Try.prog 35 z.toNat y.toNat wr
          have e1 : floatOfInt .f64 z = fl z.toNat := fl_int z hz0
          have e2 : floatOfInt .f64 y = fl y.toNat := fl_int y hy0
          rw [← e1, ← e2] at hr
          clear e1 e2
          rw [HZ.out, HY.out] at hx
          have HX : Hid (Quo (cts.map Ct.cap).sum.toNat subs.sum.toNat x) := hx
          clear hx
          rcases hr with hr | hr
          · go_wp2_with fail
            go_ret
            exact ⟨x, rfl, HX.out, hk⟩
          · go_wp2_with fail
            go_ret
            exact ⟨x, rfl, HX.out, hk.drew⟩

set_option maxHeartbeats 1000000 in
theorem zzCapacity_calls (bl bs bc : Nat) (vs vc : Value) (subs : List Int) (cts : List Ct) (w : World) (hl : w.cell? ⟨bl, 2, none⟩ = some vs) (hs : Sl icell 1 w bs vs subs) (hc : Sl Ct.cells 4 w bc vc cts)
    (hn1 : subs.length ≤ 20000) (hn2 : cts.length ≤ 20000) (hb1 : ∀ z ∈ subs, Bnd z) (hb2 : ∀ z ∈ cts.map Ct.cap, Bnd z) :
    Calls Try.prog 10 #[.pointer (some ⟨bl, 0, none⟩), vc] w fun r w' => ∃ x, r = .returned (.float .f64 x) ∧ Quo (cts.map Ct.cap).sum.toNat subs.sum.toNat x ∧ Kp No w w' := by
  have hcap := capacity_calls bl bs bc vs vc subs cts w hl hs hc hn1 hn2 hb1 hb2
  clear hl hs hc hb1 hb2
  go_enter Try.func10, Try.ntmps10
  go_wp2_with fail
  refine hcap.mono ?_
  rintro r w1 ⟨x, rfl, hx, hk⟩
  have HX : Hid (Quo (cts.map Ct.cap).sum.toNat subs.sum.toNat x) := hx
  clear hx
  go_wp2_with fail
  go_ret
  exact ⟨x, rfl, HX.out, hk⟩

set_option maxHeartbeats 1000000 in
theorem cloneF_calls (v : Value) (b : Nat) (es : List Nat) (w : World) (hs : Sl fcell 1 w b v es) (hn : es.length ≤ 50000) :
    Calls Try.prog 8 #[v] w fun r w' => ∃ v' b', r = .returned v' ∧ Sl fcell 1 w' b' v' es ∧ w.heap.size ≤ b' ∧ Kp No w w' := by
  have hs0 := hs
  obtain ⟨a, c, rfl, hat⟩ := hs
  have hnil := run_eql_nil (P := Try.prog) 22 35 Try.underlying22
  cases a with
  | none =>
    have h0 : es = [] := by
      rcases Nat.eq_zero_or_pos es.length with h | h
      · exact List.eq_nil_of_length_eq_zero h
      · obtain ⟨_, h, _⟩ := hat 0 h; cases h
    subst h0
    go_enter Try.func8, Try.ntmps8
    go_wp2
    go_ret
    exact ⟨_, w.heap.size, rfl, ⟨none, 0, rfl, fun i hi => by simp at hi⟩, Nat.le_refl _, Kp.refl _ _⟩
  | some ad =>
    clear hat
    go_enter Try.func8, Try.ntmps8
    go_wp2_with (first
      | (at_make; refine wpList_make_row rfl _ _ 22 rfl f_len 35 0 (.float .f64 0) 8 Try.underlying22 Try.info35 rfl es.length _ rfl rfl rfl (by omega) (by omega) ?_; intro w1 ho1 hk1)
      | (refine wpList_copy_all rfl _ _ 22 22 rfl f_len f_one 35 Try.underlying22 Try.size35 _ _ _ _ rfl (by exact ho1) (by simp) b _ es rfl (by exact hs0.kp hk1 (no_not _)) rfl ?_; intro w2 ho2 hk2))
    go_ret
    exact ⟨_, w.heap.size, rfl, ho2.sl f_len, Nat.le_refl _, hk1.trans hk2 (fun i hi e => by omega)⟩

set_option maxHeartbeats 1000000 in
theorem cloneI_calls (v : Value) (b : Nat) (es : List Int) (w : World) (hs : Sl icell 1 w b v es) (hn : es.length ≤ 50000) :
    Calls Try.prog 9 #[v] w fun r w' => ∃ v' b', r = .returned v' ∧ Sl icell 1 w' b' v' es ∧ w.heap.size ≤ b' ∧ Kp No w w' := by
  have hs0 := hs
  obtain ⟨a, c, rfl, hat⟩ := hs
  have hnil := run_eql_nil (P := Try.prog) 23 2 Try.underlying23
  cases a with
  | none =>
    have h0 : es = [] := by
      rcases Nat.eq_zero_or_pos es.length with h | h
      · exact List.eq_nil_of_length_eq_zero h
      · obtain ⟨_, h, _⟩ := hat 0 h; cases h
    subst h0
    go_enter Try.func9, Try.ntmps9
    go_wp2
    go_ret
    exact ⟨_, w.heap.size, rfl, ⟨none, 0, rfl, fun i hi => by simp at hi⟩, Nat.le_refl _, Kp.refl _ _⟩
  | some ad =>
    clear hat
    go_enter Try.func9, Try.ntmps9
    go_wp2_with (first
      | (at_make; refine wpList_make_row rfl _ _ 23 rfl i_len 2 0 (.int .i64 0) 8 Try.underlying23 Try.info2 rfl es.length _ rfl rfl rfl (by omega) (by omega) ?_; intro w1 ho1 hk1)
      | (refine wpList_copy_all rfl _ _ 23 23 rfl i_len i_one 2 Try.underlying23 Try.size2 _ _ _ _ rfl (by exact ho1) (by simp) b _ es rfl (by exact hs0.kp hk1 (no_not _)) rfl ?_; intro w2 ho2 hk2))
    go_ret
    exact ⟨_, w.heap.size, rfl, ho2.sl i_len, Nat.le_refl _, hk1.trans hk2 (fun i hi e => by omega)⟩

def BP (cts : List Ct) (r : Ending) (w w' : World) : Prop := ∃ rb, r = .returned (.bool rb) ∧ (rb = true → ∀ c ∈ cts, c.id.size ≤ 1048576) ∧ Kp No w w'

set_option maxHeartbeats 2000000 in
theorem bytesCap_calls (st k : Int) (a1 a2 : Option Addr) (n1 c1 n2 c2 : Nat) (v3 : Value) (b3 : Nat) (cts : List Ct) (w : World) (hs : Sl Ct.cells 4 w b3 v3 cts) (h1 : n1 ≤ maxLen) (h2 : n2 ≤ maxLen) (h3 : cts.length ≤ maxLen) :
    Calls Try.prog 7 #[.int .i64 st, .slice a1 n1 c1, .slice a2 n2 c2, v3, .int .i64 k] w fun r w' => BP cts r w w' := by
  have hs0 := hs
  obtain ⟨a3, c3, rfl, hat⟩ := hs
  clear hat
  unfold maxLen at h1 h2 h3
  by_cases g1 : n1 ≤ 1048576
  · by_cases g2 : n2 ≤ 1048576
    · by_cases g3 : n1 + n2 ≤ 1048576
      · by_cases g4 : cts.length ≤ 1048576
        · by_cases g5 : n1 + n2 + cts.length ≤ 1048576
          · go_enter Try.func7, Try.ntmps7
            go_wp2_with fail
            go_loopw [11, 12] (fun tn ti w' => ∃ (i : Nat) (z : Int), i ≤ cts.length ∧ 0 ≤ z ∧ z ≤ 1048576 ∧ (∀ q (h : q < cts.length), q < i → cts[q].id.size ≤ 1048576) ∧ tn = .int .i64 z ∧ ti = .int .i64 i ∧ Kp No w w') (fun _ ti _ => cts.length - (intOf ti).toNat)
            case atStart => exact ⟨0, _, by omega, by omega, by omega, fun q _ h => by omega, rfl, rfl, Kp.refl _ _⟩
            case round =>
              obtain ⟨i, z, hi, hz0, hz1, hall, rfl, rfl, hk⟩ := hrel
              have HALL : Hid (∀ q (h : q < cts.length), q < i → cts[q].id.size ≤ 1048576) := hall
              clear hall
              by_cases hlt : i < cts.length
              · obtain ⟨o, ha, hat⟩ := csl_get hs0 hlt
                subst ha
                obtain ⟨p0, p1, p2, p3⟩ := ct_at (hat.kp hk (no_not _))
                have HS : Hid (Sl Ct.cells 4 w b3 _ cts) := hs0
                clear hs0 hat
                by_cases hb : cts[i].id.size ≤ 1048576
                · by_cases hzz : z + cts[i].id.size ≤ 1048576
                  · go_wp2_with fail
                    go_roundw
                    case rel =>
                      refine ⟨i + 1, z + cts[i].id.size, by omega, by omega, by omega, ?_, rfl, by go_num, hk⟩
                      intro q hq hqi
                      by_cases e : q = i
                      · subst e; exact hb
                      · exact HALL.out q hq (by omega)
                    case measure => simp [intOf]; omega
                  · have hzz' : (1048576 : Int) < z + cts[i].id.size := by omega
                    go_wp2_with fail
                    go_ret
                    exact ⟨false, rfl, (fun h => by cases h), hk⟩
                · have hb' : 1048576 < cts[i].id.size := by omega
                  go_wp2_with fail
                  go_ret
                  exact ⟨false, rfl, (fun h => by cases h), hk⟩
              · go_wp2_with fail
                go_ret
                refine ⟨true, rfl, fun _ c hc => ?_, hk⟩
                obtain ⟨q, hq, rfl⟩ := List.getElem_of_mem hc
                exact HALL.out q hq (by omega)
          · have g' : (1048576 : Int) < (n1 : Int) + (n2 : Int) + (cts.length : Int) := by omega
            go_enter Try.func7, Try.ntmps7
            go_wp2_with fail
            go_ret
            exact ⟨false, rfl, (fun h => by cases h), Kp.refl No w⟩
        · have g' : (1048576 : Int) < (cts.length : Int) := by omega
          go_enter Try.func7, Try.ntmps7
          go_wp2_with fail
          go_ret
          exact ⟨false, rfl, (fun h => by cases h), Kp.refl No w⟩
      · have g' : (1048576 : Int) < (n1 : Int) + (n2 : Int) := by omega
        go_enter Try.func7, Try.ntmps7
        go_wp2_with fail
        go_ret
        exact ⟨false, rfl, (fun h => by cases h), Kp.refl No w⟩
    · have g' : (1048576 : Int) < (n2 : Int) := by omega
      go_enter Try.func7, Try.ntmps7
      go_wp2_with fail
      go_ret
      exact ⟨false, rfl, (fun h => by cases h), Kp.refl No w⟩
  · have g' : (1048576 : Int) < (n1 : Int) := by omega
    go_enter Try.func7, Try.ntmps7
    go_wp2_with fail
    go_ret
    exact ⟨false, rfl, (fun h => by cases h), Kp.refl No w⟩
end Go.Proofs.Qxb6003632a
