/-
  A region that draws its order, walked in the order of its text (wp_region_text); and, where ONE pair of operations neither is ordered nor commutes, in two orders (wp_region_two).
-/
import Derived.Test.Qxb6003663aText3
namespace Go.Proofs.Qxb6003663a
open Go.RowKit

section
variable {P : Program} {ops : Array Oper} {K : Act → World → Prop} {ts : List TypeId}

/-- Two operations that commute. -/
structure Pair (P : Program) (ts : List TypeId) (ops : Array Oper) (oj oi : Oper) : Prop where
  ap : oj.apart ops oi = true
  cm : comm (cls ts oj.op) (cls ts oi.op) = true

def reach (ops : Array Oper) : Nat → Nat → Nat → Bool
  | 0, _, _ => false
  | f + 1, j, i => match ops[i]? with
    | none => false
    | some o => o.after.any (fun e => Region.binds .any e && e.on == j) || o.after.any (fun e => Region.binds .any e && decide (j < e.on) && reach ops f j e.on)

/-- What the check says of two operations, j ahead of i in the order that is walked; 'p ahead of q' is let by. -/
structure Rel (P : Program) (ts : List TypeId) (ops : Array Oper) (p q : Nat) (j i : Nat) : Prop where
  wait : ∀ oj, ops[j]? = some oj → ∀ e ∈ oj.after, Region.binds .any e = true → e.on ≠ i
  pair : ∀ oj oi, ops[j]? = some oj → ops[i]? = some oi → reach ops ops.size j i = true ∨ Pair P ts ops oj oi ∨ (j = p ∧ i = q)
  nwr : ∀ oj, ops[j]? = some oj → asksVals oj.op = true → nw ops oj i

structure Ord (P : Program) (ts : List TypeId) (ops : Array Oper) (p q : Nat) (L : List Nat) : Prop where
  mem : ∀ i, i ∈ L ↔ i < ops.size
  nodup : L.Nodup
  pw : L.Pairwise (Rel P ts ops p q)
  sel : ∀ (i : Nat) (o : Oper), ops[i]? = some o → notSel o.op = true
  fld : ∀ (i : Nat) (o : Oper), ops[i]? = some o → fieldOk P o.op = true
  own : ∀ (i : Nat) (o : Oper), ops[i]? = some o → asksVals o.op = true → nw ops o i
  edge : ∀ (i : Nat) (o : Oper), ops[i]? = some o → ∀ e ∈ o.after, Region.binds .any e = true → e.on ≠ i ∧ e.on < ops.size

theorem nw_of_apart {o x : Oper} {k : Nat} (hk : ops[k]? = some x) (h : x.apart ops o = true) : nw ops o k := by
  intro y hy t ht
  rw [hk] at hy
  obtain rfl := Option.some.inj hy
  exact (Oper.apart_spec h).1 t ht

theorem move_front {p q : Nat} {L : List Nat} (hO : Ord P ts ops p q L) (hK : ∀ a w, K a w → okFin ts ops a = true) {i : Nat} {oi : Oper} (hi : ops[i]? = some oi) {post : List Nat} (hpost : ∀ k ∈ post, Rel P ts ops p q i k) :
    ∀ (pre : List Nat) (a : Act) (w : World), (∀ j ∈ pre, Rel P ts ops p q j i ∧ ∃ oj, ops[j]? = some oj ∧ Pair P ts ops oj oi) → List.Pairwise (Rel P ts ops p q) (pre ++ post) →
      wpOps P ops (only K) (pre ++ i :: post) a w → wpOps P ops (only K) (i :: (pre ++ post)) a w
  | [], _, _, _, _, h => h
  | j :: pre, a, w, hpre, hpw, h => by
    obtain ⟨hji, oj, hj, hp⟩ := hpre j (List.mem_cons_self ..)
    have hpw' := List.pairwise_cons.1 (by simpa using hpw : List.Pairwise (Rel P ts ops p q) (j :: (pre ++ post)))
    have hpre' : ∀ j ∈ pre, Rel P ts ops p q j i ∧ ∃ oj, ops[j]? = some oj ∧ Pair P ts ops oj oi := fun k hk => hpre k (List.mem_cons_of_mem _ hk)
    have h' : wpOps P ops (only K) (j :: i :: (pre ++ post)) a w := by
      rw [List.cons_append, wpOps_cons] at h
      rw [wpOps_cons]
      exact wpOp_mono (fun a' w' hh => move_front hO hK hi hpost pre a' w' hpre' hpw'.2 hh) h
    refine swap hK hi hj (hO.sel i oi hi) (hO.sel j oj hj) (hO.fld i oi hi) (hO.fld j oj hj) hp.ap hp.cm ?_ ?_ h'
    · intro hask k hk
      rcases List.mem_cons.1 hk with rfl | hk
      · exact hO.own _ oj hj hask
      rcases List.mem_cons.1 hk with rfl | hk
      · exact hji.nwr oj hj hask
      · exact (hpw'.1 k hk).nwr oj hj hask
    · intro hask k hk
      rcases List.mem_cons.1 hk with rfl | hk
      · exact nw_of_apart hj hp.ap
      rcases List.mem_cons.1 hk with rfl | hk
      · exact hO.own _ oi hi hask
      rcases List.mem_append.1 hk with hk | hk
      · obtain ⟨_, ok, hok, hpk⟩ := hpre' k hk
        exact nw_of_apart hok hpk.ap
      · exact (hpost k hk).nwr oi hi hask

/-- The operations that have not come up yet, in the order that is walked. -/
def rem (L : List Nat) (listed : Array Bool) : List Nat := L.filter fun i => !listed.getD i true

theorem mem_rem {L : List Nat} {i : Nat} {listed : Array Bool} : i ∈ rem L listed ↔ i ∈ L ∧ listed.getD i true = false := by
  simp [rem]

theorem rem_split {p q : Nat} {L : List Nat} (hO : Ord P ts ops p q L) {i : Nat} {listed : Array Bool} (hs : listed.size = ops.size) (hi : i ∈ rem L listed) :
    ∃ pre post, rem L listed = pre ++ i :: post ∧ rem L (listed.setIfInBounds i true) = pre ++ post ∧ (∀ j ∈ pre, Rel P ts ops p q j i) ∧ (∀ k ∈ post, Rel P ts ops p q i k) ∧ List.Pairwise (Rel P ts ops p q) (pre ++ post) := by
  have hin : i < ops.size := (hO.mem i).1 (mem_rem.1 hi).1
  obtain ⟨pre, post, he⟩ := List.append_of_mem hi
  have hpw : List.Pairwise (Rel P ts ops p q) (rem L listed) := List.Pairwise.filter _ hO.pw
  have hnd : (rem L listed).Nodup := List.Pairwise.filter _ hO.nodup
  rw [he] at hpw hnd
  have hnd' := List.nodup_append.1 hnd
  have n1 : ∀ j ∈ pre, j ≠ i := fun j hj => hnd'.2.2 j hj i (List.mem_cons_self ..)
  have n2 : ∀ k ∈ post, k ≠ i := fun k hk e => (List.nodup_cons.1 hnd'.2.1).1 (e ▸ hk)
  have h1 := List.pairwise_append.1 hpw
  refine ⟨pre, post, he, ?_, fun j hj => h1.2.2 j hj i (List.mem_cons_self ..), (List.pairwise_cons.1 h1.2.1).1, ?_⟩
  · have e1 : rem L (listed.setIfInBounds i true) = (rem L listed).filter fun k => decide (k ≠ i) := by
      unfold rem
      rw [List.filter_filter]
      refine List.filter_congr fun k hk => ?_
      have hkn : k < ops.size := (hO.mem k).1 hk
      by_cases hki : i = k
      · subst hki
        simp [hs, hkn]
      · rw [getD_set_ne true hki]
        have : decide (k ≠ i) = true := by simp; omega
        rw [this]; simp
    rw [e1, he, List.filter_append, List.filter_cons]
    have f1 : pre.filter (fun k => decide (k ≠ i)) = pre := List.filter_eq_self.2 fun k hk => by have := n1 k hk; simpa using this
    have f2 : post.filter (fun k => decide (k ≠ i)) = post := List.filter_eq_self.2 fun k hk => by have := n2 k hk; simpa using this
    rw [f1, f2]
    simp
  · exact List.pairwise_append.2 ⟨h1.1, (List.pairwise_cons.1 h1.2.1).2, fun j hj k hk => h1.2.2 j hj k (List.mem_cons_of_mem _ hk)⟩

/-- Whoever has come up, all that it waits for has come up. -/
def Closed (ops : Array Oper) (listed : Array Bool) : Prop :=
  ∀ (i : Nat) (o : Oper), ops[i]? = some o → listed.getD i true = true → ∀ e ∈ o.after, Region.binds .any e = true → listed.getD e.on false = true

theorem getD_ft {listed : Array Bool} {i : Nat} (h : listed.getD i false = true) : listed.getD i true = true := by
  simp only [Array.getD_eq_getD_getElem?] at *
  cases hx : listed[i]? with
  | none => rfl
  | some b => simpa [hx] using h

theorem reach_listed {listed : Array Bool} (hC : Closed ops listed) : ∀ (f j i : Nat), (∀ o, ops[i]? = some o → ∀ e ∈ o.after, Region.binds .any e = true → listed.getD e.on false = true) →
    reach ops f j i = true → listed.getD j false = true
  | 0, _, _, _, h => by simp [reach] at h
  | f + 1, j, i, hp, h => by
    unfold reach at h
    cases hi : ops[i]? with
    | none => simp [hi] at h
    | some o =>
      simp only [hi, Bool.or_eq_true] at h
      rcases h with h | h
      · obtain ⟨e, he, hb⟩ := Array.any_eq_true'.1 h
        simp only [Bool.and_eq_true, beq_iff_eq] at hb
        have := hp o hi e he hb.1
        rw [hb.2] at this; exact this
      · obtain ⟨e, he, hb⟩ := Array.any_eq_true'.1 h
        simp only [Bool.and_eq_true] at hb
        have h1 := hp o hi e he hb.1.1
        exact reach_listed hC f j e.on (fun o' ho' e' he' hb' => hC e.on o' ho' (getD_ft h1) e' he' hb') hb.2

theorem closed_set {listed : Array Bool} (hC : Closed ops listed) {i : Nat} {oi : Oper} (hoi : ops[i]? = some oi) (hall : ∀ e ∈ oi.after, Region.binds .any e = true → listed.getD e.on false = true) : Closed ops (listed.setIfInBounds i true) := by
  intro k o hk hl e he hb
  by_cases hki : i = k
  · subst hki
    rw [hoi] at hk
    obtain rfl := Option.some.inj hk
    exact getD_set_true (hall e he hb)
  · rw [getD_set_ne true hki] at hl
    exact getD_set_true (hC k o hk hl e he hb)

theorem none_ready {L : List Nat} {p q : Nat} (hO : Ord P ts ops p q L) {listed : Array Bool} (h : rem L listed = []) : Region.ready .any ops listed = [] := by
  refine List.eq_nil_iff_forall_not_mem.2 fun i hi => ?_
  obtain ⟨h0, o, ho, _⟩ := mem_ready.1 hi
  have : i ∈ rem L listed := mem_rem.2 ⟨(hO.mem i).2 (Array.getElem?_eq_some_iff.1 ho).1, h0⟩
  rw [h] at this; simp at this

theorem some_ready {L : List Nat} {p q : Nat} (hO : Ord P ts ops p q L) {listed : Array Bool} (hs : listed.size = ops.size) (h : Region.ready .any ops listed = []) : rem L listed = [] := by
  cases hr : rem L listed with
  | nil => rfl
  | cons i l =>
    exfalso
    have hi : i ∈ rem L listed := by rw [hr]; exact List.mem_cons_self ..
    obtain ⟨hiL, h0⟩ := mem_rem.1 hi
    have hin := (hO.mem i).1 hiL
    have hpw : List.Pairwise (Rel P ts ops p q) (rem L listed) := List.Pairwise.filter _ hO.pw
    rw [hr] at hpw
    have hfst := (List.pairwise_cons.1 hpw).1
    have : i ∈ Region.ready .any ops listed := by
      refine mem_ready.2 ⟨h0, ops[i], by simp [hin], fun e he hb => ?_⟩
      have hed := hO.edge i ops[i] (by simp [hin]) e he hb
      cases hx : listed.getD e.on false with
      | true => rfl
      | false =>
        exfalso
        have hx' : listed.getD e.on true = false := by
          have : e.on < listed.size := by omega
          simp only [Array.getD_eq_getD_getElem?, this, getElem?_pos, Option.getD_some] at hx ⊢
          exact hx
        have hm : e.on ∈ rem L listed := mem_rem.2 ⟨(hO.mem _).2 hed.2, hx'⟩
        rw [hr] at hm
        rcases List.mem_cons.1 hm with he' | hm
        · exact hed.1 he'
        · exact (hfst _ hm).wait ops[i] (by simp [hin]) e he hb rfl
    rw [h] at this; simp at this

/-- One that may come up now is brought to the front. -/
theorem front {L : List Nat} {p q : Nat} (hO : Ord P ts ops p q L) (hK : ∀ a w, K a w → okFin ts ops a = true) {listed : Array Bool} (hs : listed.size = ops.size) (hC : Closed ops listed) {i : Nat} (hi : i ∈ Region.ready .any ops listed)
    (hexc : i = q → listed.getD p true = true) {a : Act} {w : World} (h : wpOps P ops (only K) (rem L listed) a w) :
    wpOp P ops (only K) i (wpOps P ops (only K) (rem L (listed.setIfInBounds i true))) a w ∧ (rem L (listed.setIfInBounds i true)).length + 1 = (rem L listed).length := by
  obtain ⟨h0, oi, hoi, hall⟩ := mem_ready.1 hi
  have hin : i < ops.size := (Array.getElem?_eq_some_iff.1 hoi).1
  obtain ⟨pre, post, e1, e2, h1, h2, hpw⟩ := rem_split hO hs (mem_rem.2 ⟨(hO.mem i).2 hin, h0⟩)
  rw [e1] at h
  have hpre : ∀ j ∈ pre, Rel P ts ops p q j i ∧ ∃ oj, ops[j]? = some oj ∧ Pair P ts ops oj oi := by
    intro j hj
    have hjr : j ∈ rem L listed := by rw [e1]; exact List.mem_append_left _ hj
    obtain ⟨hjL, hj0⟩ := mem_rem.1 hjr
    have hjn := (hO.mem j).1 hjL
    refine ⟨h1 j hj, ops[j], by simp [hjn], ?_⟩
    rcases (h1 j hj).pair ops[j] oi (by simp [hjn]) hoi with hr | hp | ⟨rfl, e⟩
    · exfalso
      have := reach_listed hC _ j i (fun o ho e he hb => by rw [hoi] at ho; obtain rfl := Option.some.inj ho; exact hall e he hb) hr
      rw [getD_ft this] at hj0
      exact absurd hj0 (by decide)
    · exact hp
    · exfalso
      rw [hexc e] at hj0
      exact absurd hj0 (by decide)
  have h' := move_front hO hK hoi h2 pre a w hpre hpw h
  rw [wpOps_cons] at h'
  rw [e2, e1]
  refine ⟨h', ?_⟩
  simp
  omega

theorem any_one {L : List Nat} {p q : Nat} (hO : Ord P ts ops p q L) (hK : ∀ a w, K a w → okFin ts ops a = true) : ∀ (fuel : Nat) (listed : Array Bool) (a : Act) (w : World),
    listed.size = ops.size → Closed ops listed → listed.getD p true = true → (rem L listed).length ≤ fuel → wpOps P ops (only K) (rem L listed) a w →
      wpAny P .any ops (only K) fuel listed a w := by
  intro fuel
  induction fuel with
  | zero =>
    intro listed a w hs hC hp hf h
    have h0 : rem L listed = [] := List.eq_nil_of_length_eq_zero (by omega)
    exact ⟨none_ready hO h0, by rw [h0] at h; exact h⟩
  | succ fuel ih =>
    intro listed a w hs hC hp hf h
    refine ⟨fun hr => by rw [some_ready hO hs hr] at h; exact h, fun i hi => ?_⟩
    obtain ⟨h0, oi, hoi, hall⟩ := mem_ready.1 hi
    obtain ⟨h', hl⟩ := front hO hK hs hC hi (fun _ => hp) h
    refine wpOp_mono (fun a' w' hh => ih _ a' w' (by simp [hs]) (closed_set hC hoi hall) ?_ (by omega) hh) h'
    by_cases hip : i = p
    · subst hip
      rw [h0] at hp; exact absurd hp (by decide)
    · rw [getD_set_ne true hip]; exact hp

theorem wpOp_and {i : Nat} {o : Oper} (hi : ops[i]? = some o) (hc : cls ts o.op ≤ 1) {K1 K2 : Act → World → Prop} {a : Act} {w : World} (h1 : wpOp P ops (only K) i K1 a w) (h2 : wpOp P ops (only K) i K2 a w) :
    wpOp P ops (only K) i (fun a w => K1 a w ∧ K2 a w) a w := by
  unfold wpOp at *
  simp only [hi] at *
  cases hw : Region.wanted o (yielded ops a.tmps) with
  | false => simp only [hw, Bool.false_eq_true, if_false] at *; exact ⟨h1, h2⟩
  | true =>
    simp only [hw, if_true] at *
    rcases h1 with h1 | ⟨_, h⟩
    case inr => exact (only_out h).elim
    rcases h2 with h2 | ⟨_, h⟩
    case inr => exact (only_out h).elim
    refine .inl ?_
    unfold Oper.wp at *
    cases hr : (execOp a.eval o).run P w with
    | ok n w' =>
      obtain ⟨v, rfl⟩ := val_execOp (ts := ts) hc hr
      rw [hr] at h1 h2
      exact ⟨h1, h2⟩
    | halt x w' =>
      rw [hr] at h1
      cases x <;> simp only [Oper.upon] at h1
      exact h1.elim

/-- While neither p nor q has come up only what computes or reads may. -/
def Still (ts : List TypeId) (ops : Array Oper) (p q : Nat) : Prop :=
  ∀ (i : Nat) (o : Oper), ops[i]? = some o → i ≠ p → i ≠ q → cls ts o.op ≤ 1 ∨ reach ops ops.size p i = true ∨ reach ops ops.size q i = true

theorem any_two {L M : List Nat} {p q : Nat} (hpq : p ≠ q) (hp : p < ops.size) (hq : q < ops.size) (hO : Ord P ts ops p q L) (hM : Ord P ts ops q p M) (hS : Still ts ops p q) (hK : ∀ a w, K a w → okFin ts ops a = true) :
    ∀ (fuel : Nat) (listed : Array Bool) (a : Act) (w : World),
    listed.size = ops.size → Closed ops listed → (rem L listed).length ≤ fuel → (rem M listed).length ≤ fuel →
      wpOps P ops (only K) (rem L listed) a w → wpOps P ops (only K) (rem M listed) a w → wpAny P .any ops (only K) fuel listed a w := by
  intro fuel
  induction fuel with
  | zero =>
    intro listed a w hs hC hf hf' h1 h2
    have h0 : rem L listed = [] := List.eq_nil_of_length_eq_zero (by omega)
    exact ⟨none_ready hO h0, by rw [h0] at h1; exact h1⟩
  | succ fuel ih =>
    intro listed a w hs hC hf hf' h1 h2
    cases hpl : listed.getD p true with
    | true => exact any_one hO hK _ listed a w hs hC hpl hf h1
    | false =>
      cases hql : listed.getD q true with
      | true => exact any_one hM hK _ listed a w hs hC hql hf' h2
      | false =>
        refine ⟨fun hr => by rw [some_ready hO hs hr] at h1; exact h1, fun i hi => ?_⟩
        obtain ⟨h0, oi, hoi, hall⟩ := mem_ready.1 hi
        by_cases hip : i = p
        · subst hip
          obtain ⟨h', hl⟩ := front hO hK hs hC hi (fun e => absurd e hpq) h1
          refine wpOp_mono (fun a' w' hh => any_one hO hK _ _ a' w' (by simp [hs]) (closed_set hC hoi hall) ?_ (by omega) hh) h'
          simp [hs, hp]
        · by_cases hiq : i = q
          · subst hiq
            obtain ⟨h', hl⟩ := front hM hK hs hC hi (fun e => absurd e hip) h2
            refine wpOp_mono (fun a' w' hh => any_one hM hK _ _ a' w' (by simp [hs]) (closed_set hC hoi hall) ?_ (by omega) hh) h'
            simp [hs, hq]
          · have hc : cls ts oi.op ≤ 1 := by
              rcases hS i oi hoi hip hiq with h | h | h
              · exact h
              · have := getD_ft (reach_listed hC _ p i (fun o ho e he hb => by rw [hoi] at ho; obtain rfl := Option.some.inj ho; exact hall e he hb) h)
                rw [hpl] at this; exact absurd this (by decide)
              · have := getD_ft (reach_listed hC _ q i (fun o ho e he hb => by rw [hoi] at ho; obtain rfl := Option.some.inj ho; exact hall e he hb) h)
                rw [hql] at this; exact absurd this (by decide)
            obtain ⟨h', hl⟩ := front hO hK hs hC hi (fun e => absurd e hiq) h1
            obtain ⟨h'', hl'⟩ := front hM hK hs hC hi (fun e => absurd e hip) h2
            exact wpOp_mono (fun a' w' hh => ih _ a' w' (by simp [hs]) (closed_set hC hoi hall) (by omega) (by omega) hh.1 hh.2) (wpOp_and hoi hc h' h'')

/-! ### The checks: closed, by the kernel -/
def relOk (_P : Program) (ts : List TypeId) (ops : Array Oper) (p q j i : Nat) : Bool :=
  match ops[j]?, ops[i]? with
  | some oj, some oi =>
    oj.after.all (fun e => !Region.binds .any e || e.on != i) &&
    (!asksVals oj.op || (match oi.dst with | some d => !(oj.looksAt ops).contains d | none => true)) &&
    (reach ops ops.size j i || (oj.apart ops oi && comm (cls ts oj.op) (cls ts oi.op)) || (j == p && i == q))
  | _, _ => false

def pwOk (r : Nat → Nat → Bool) : List Nat → Bool
  | [] => true
  | j :: l => l.all (r j) && pwOk r l
theorem pwOk_spec {r : Nat → Nat → Bool} : ∀ {l : List Nat}, pwOk r l = true → l.Pairwise fun j i => r j i = true
  | [], _ => List.Pairwise.nil
  | j :: l, h => by
    simp only [pwOk, Bool.and_eq_true, List.all_eq_true] at h
    exact List.pairwise_cons.2 ⟨h.1, pwOk_spec h.2⟩

def ordOk (P : Program) (ts : List TypeId) (ops : Array Oper) (p q : Nat) (L : List Nat) : Bool :=
  (List.range ops.size).all (fun i => L.contains i) && L.all (fun i => decide (i < ops.size)) && pwOk (fun j i => j != i) L && pwOk (relOk P ts ops p q) L &&
  (List.range ops.size).all fun i => match ops[i]? with
    | none => true
    | some o => notSel o.op && fieldOk P o.op && (!asksVals o.op || (match o.dst with | some d => !(o.looksAt ops).contains d | none => true)) &&
      o.after.all (fun e => !Region.binds .any e || (e.on != i && decide (e.on < ops.size)))

theorem ord_of {p q : Nat} {L : List Nat} (h : ordOk P ts ops p q L = true) : Ord P ts ops p q L := by
  simp only [ordOk, Bool.and_eq_true] at h
  obtain ⟨⟨⟨⟨h1, h2⟩, h3⟩, h4⟩, h5⟩ := h
  have lt : ∀ {i : Nat} {o : Oper}, ops[i]? = some o → i < ops.size := fun hi => (Array.getElem?_eq_some_iff.1 hi).1
  have one : ∀ (i : Nat) (o : Oper), ops[i]? = some o → _ := fun i o hi => by
    have := (List.all_eq_true.1 h5) i (List.mem_range.2 (lt hi))
    simp only [hi, Bool.and_eq_true] at this
    exact this
  refine ⟨fun i => ⟨fun hi => ?_, fun hi => ?_⟩, ?_, ?_, fun i o hi => (one i o hi).1.1.1, fun i o hi => (one i o hi).1.1.2, ?_, ?_⟩
  · simpa using (List.all_eq_true.1 h2) i hi
  · simpa using (List.all_eq_true.1 h1) i (List.mem_range.2 hi)
  · refine (pwOk_spec h3).imp fun {a b} hab => ?_
    simpa using hab
  · refine (pwOk_spec h4).imp fun {j i} hab => ?_
    unfold relOk at hab
    cases hj : ops[j]? with
    | none => simp [hj] at hab
    | some oj =>
      cases hi : ops[i]? with
      | none => simp [hj, hi] at hab
      | some oi =>
        simp only [hj, hi, Bool.and_eq_true] at hab
        obtain ⟨⟨g1, g2⟩, g3⟩ := hab
        refine ⟨fun o ho e he hb => ?_, fun x y hx hy => ?_, fun o ho hask x hx t ht => ?_⟩
        · rw [hj] at ho; obtain rfl := Option.some.inj ho
          have := (Array.all_eq_true_iff_forall_mem.1 g1) e he
          simpa [hb] using this
        · rw [hj] at hx; obtain rfl := Option.some.inj hx
          rw [hi] at hy; obtain rfl := Option.some.inj hy
          simp only [Bool.or_eq_true, Bool.and_eq_true, beq_iff_eq] at g3
          rcases g3 with (g | g) | g
          · exact .inl g
          · exact .inr (.inl ⟨g.1, g.2⟩)
          · exact .inr (.inr g)
        · rw [hj] at ho; obtain rfl := Option.some.inj ho
          rw [hi] at hx; obtain rfl := Option.some.inj hx
          simp only [hask, ht, Bool.not_true, Bool.false_or, Bool.not_eq_true'] at g2
          simpa using g2
  · intro i o hi hask x hx t ht
    rw [hi] at hx; obtain rfl := Option.some.inj hx
    have := (one i o hi).1.2
    simp only [hask, ht, Bool.not_true, Bool.false_or, Bool.not_eq_true'] at this
    simpa using this
  · intro i o hi e he hb
    have := (Array.all_eq_true_iff_forall_mem.1 (one i o hi).2) e he
    simpa [hb] using this

def stillOk (ts : List TypeId) (ops : Array Oper) (p q : Nat) : Bool :=
  (List.range ops.size).all fun i => i == p || i == q || (match ops[i]? with | some o => decide (cls ts o.op ≤ 1) | none => true) || reach ops ops.size p i || reach ops ops.size q i
theorem still_of {p q : Nat} (h : stillOk ts ops p q = true) : Still ts ops p q := by
  intro i o hi hp hq
  have := (List.all_eq_true.1 h) i (List.mem_range.2 (Array.getElem?_eq_some_iff.1 hi).1)
  simp only [hi, Bool.or_eq_true, beq_iff_eq, decide_eq_true_eq] at this
  rcases this with (((h | h) | h) | h) | h
  · exact absurd h hp
  · exact absurd h hq
  · exact .inl h
  · exact .inr (.inl h)
  · exact .inr (.inr h)

theorem rem_none {L : List Nat} {n : Nat} (hL : ∀ i ∈ L, i < n) : rem L (Array.replicate n false) = L := by
  unfold rem
  refine List.filter_eq_self.2 fun i hi => ?_
  have := hL i hi
  simp [this]
theorem closed_none : Closed ops (Array.replicate ops.size false) := by
  intro i o hi hl
  have : i < ops.size := (Array.getElem?_eq_some_iff.1 hi).1
  exfalso
  revert hl
  simp [this]

def txtOk (P : Program) (ts : List TypeId) (ops : Array Oper) : Bool := ordOk P ts ops ops.size ops.size (List.range ops.size)

def nth : List Oper → Nat → Oper
  | [], _ => default
  | a :: _, 0 => a
  | _ :: l, n + 1 => nth l n
theorem nth_eq : ∀ (l : List Oper) (i : Nat) (h : i < l.length), nth l i = l[i]
  | [], i, h => by simp at h
  | a :: l, 0, _ => rfl
  | a :: l, i + 1, h => nth_eq l i (by simpa using h)
/-- The operations by their numbers. -/
def pick (l : List Oper) (L : List Nat) : List Oper := L.map (nth l)

theorem wpOps_pick (l : List Oper) (Q : Exit → Act → World → Prop) : ∀ (L : List Nat), (∀ i ∈ L, i < l.length) → wpOps P l.toArray Q L = wpList P l.toArray Q (pick l L)
  | [], _ => by funext a w; rfl
  | i :: L, h => by
    have hi := h i (List.mem_cons_self ..)
    have ih := wpOps_pick l Q L fun j hj => h j (List.mem_cons_of_mem _ hj)
    funext a w
    have e : l.toArray[i]? = some l[i] := by simp [hi]
    have e2 : pick l (i :: L) = l[i] :: pick l L := by simp [pick, nth_eq l i hi]
    rw [e2]
    simp only [wpOps, e, wpList, ih]

/-- ████ A region that draws its order, walked in the order of its text. -/
theorem wp_region_text {id : Nat} {l : List Oper} {Q : Exit → Act → World → Prop} {a : Act} {w : World} (ts : List TypeId) (hm : P.follows .mixedOrders = true) (hT : txtOk P ts l.toArray = true)
    (h : wpList P l.toArray (only fun a' w' => okFin ts l.toArray a' = true ∧ Q .normal a' w') l a w.drew) : (Code.region id l.toArray true).wp P Q a w := by
  refine Code.wp_mono (Q := only fun a' w' => okFin ts l.toArray a' = true ∧ Q .normal a' w') (fun e a' w' hq => ?_) (wp_region_any hm ?_)
  · cases e with
    | normal => exact hq.2
    | _ => exact hq.elim
  · have hO := ord_of hT
    have hr := rem_none (fun i hi => (hO.mem i).1 hi)
    refine any_one hO (fun a w h => h.1) _ _ _ _ (by simp) closed_none ?_ ?_ ?_
    · simp
    · rw [hr]; simp
    · rw [hr, List.range_eq_range', List.size_toArray, wpOps_eq_wpList (ops := l.toArray) l 0 (by simp)]
      exact h

/-- ████ A region that draws its order, in which operations p and q alone neither are ordered nor commute: walked in two orders: the text's, and M. -/
theorem wp_region_two {id : Nat} {l : List Oper} {Q : Exit → Act → World → Prop} {a : Act} {w : World} (ts : List TypeId) (p q : Nat) (M : List Nat) (hm : P.follows .mixedOrders = true)
    (hT : (ordOk P ts l.toArray p q (List.range l.length) && ordOk P ts l.toArray q p M && stillOk ts l.toArray p q && p != q && decide (p < l.length) && decide (q < l.length) && decide (M.length ≤ l.length)) = true)
    (h : wpList P l.toArray (only fun a' w' => okFin ts l.toArray a' = true ∧ Q .normal a' w') l a w.drew)
    (h2 : wpList P l.toArray (only fun a' w' => okFin ts l.toArray a' = true ∧ Q .normal a' w') (pick l M) a w.drew) : (Code.region id l.toArray true).wp P Q a w := by
  simp only [Bool.and_eq_true, decide_eq_true_eq, bne_iff_ne, ne_eq] at hT
  obtain ⟨⟨⟨⟨⟨⟨hT1, hT2⟩, hT3⟩, hpq⟩, hp⟩, hq⟩, hML⟩ := hT
  refine Code.wp_mono (Q := only fun a' w' => okFin ts l.toArray a' = true ∧ Q .normal a' w') (fun e a' w' hq => ?_) (wp_region_any hm ?_)
  · cases e with
    | normal => exact hq.2
    | _ => exact hq.elim
  · have hO := ord_of hT1
    have hM := ord_of hT2
    have hr := rem_none (fun i hi => (hO.mem i).1 hi)
    have hr2 := rem_none (fun i hi => (hM.mem i).1 hi)
    refine any_two hpq (by simpa using hp) (by simpa using hq) hO hM (still_of hT3) (fun a w h => h.1) _ _ _ _ (by simp) closed_none ?_ ?_ ?_ ?_
    · rw [hr]; simp
    · rw [hr2]; simpa using hML
    · rw [hr, List.range_eq_range', wpOps_eq_wpList (ops := l.toArray) l 0 (by simp)]
      exact h
    · rw [hr2, wpOps_pick l _ M fun i hi => by have := (hM.mem i).1 hi; simpa using this]
      exact h2
end
end Go.Proofs.Qxb6003663a
