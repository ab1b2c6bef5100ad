/-
  zzDFS: by induction on the number of vertices not yet seen.
-/
import Derived.Test.Qxb6003663aBoundW
import Derived.Test.Qxb6003663aPlain2
namespace Go.Proofs.Qxb6003663a
open Go.RowKit

theorem adjOf_get {es : List (List Int)} {x : Nat} (hx : x < es.length) {k : Nat} (hk : k < es[x].length) : (adjOf es false x)[k]? = es[x][k]? ∧ (adjOf es true x)[k]? = es[x][es[x].length - 1 - k]? := by
  have e : es.getD (x : Int).toNat [] = es[x] := by rw [List.getD_eq_getElem?_getD, Int.toNat_natCast, List.getElem?_eq_getElem hx]; rfl
  unfold adjOf
  rw [e]
  constructor
  · simp
  · simp only [if_true]
    rw [List.getElem?_reverse hk]
theorem adjOf_take {es : List (List Int)} {b : Bool} {v : Int} {k : Nat} {y : Int} (h : (adjOf es b v)[k]? = some y) : (adjOf es b v).take (k + 1) = (adjOf es b v).take k ++ [y] := by
  obtain ⟨hk, rfl⟩ := List.getElem?_eq_some_iff.1 h
  exact List.take_succ_eq_append_getElem hk

/-- An order's row, apart from the others. -/
structure Orw (w : World) (t : TypeId) (ov : Value) (order : List Int) (A : Nat → Prop) : Prop where
  owns : w.ownsRow 0 t 1 ov order.length (order.flatMap ic)
  apart : ∀ g, ov.ownBlock = some g → g < w.heap.size ∧ ¬ A g

theorem Orw.kp {w w' : World} {t : TypeId} {ov : Value} {order : List Int} {A S : Nat → Prop} (h : Orw w t ov order A) (q : Kp S w w') (hn : ∀ g, ov.ownBlock = some g → ¬ S g) : Orw w' t ov order A :=
  ⟨q.owns h.owns hn, fun g hg => ⟨Nat.lt_of_lt_of_le (h.apart g hg).1 q.size, (h.apart g hg).2⟩⟩

/-- Where the new row lies. -/
def From (w : World) (ov ov' : Value) : Prop := ∀ g, ov'.ownBlock = some g → ov.ownBlock = some g ∨ w.heap.size ≤ g
theorem From.refl (w : World) (ov : Value) : From w ov ov := fun _ h => .inl h
theorem From.trans {w w' : World} {o1 o2 o3 : Value} (h : From w o1 o2) (k : From w' o2 o3) (hs : w.heap.size ≤ w'.heap.size) : From w o1 o3 := by
  intro g hg
  rcases k g hg with h1 | h1
  · exact h g h1
  · exact .inr (by omega)
/-- What the search turns. -/
def Turn (gl : Nat) (ov : Value) : Nat → Prop := fun j => j = gl ∨ ov.ownBlock = some j

structure DfsPost (es : List (List Int)) (back : Bool) (v : Int) (s : St) (gl : Nat) (A : Nat → Prop) (ov : Value) (w : World) (r : Ending) (w' : World) : Prop where
  out : ∃ t ov', r = .returned ov' ∧ Dfs (adjOf es back) v s t ∧ Own ic 1 w' 21 gl es.length t.left ∧ Orw w' 21 ov' t.order A ∧ From w ov ov' ∧ Kp (Turn gl ov) w w'

set_option maxHeartbeats 4000000 in
set_option maxRecDepth 100000 in
theorem dfs_calls (es : List (List Int)) (back : Bool) (hf : Fits es) (hid : Ids es) (B : Nat → Prop) (gl : Nat) (hgl : ¬ B gl) (m : Nat) : ∀ (s : St) (v : Int) (w : World) (ev ov : Value), s.zeros ≤ m → s.at v = 0 → 0 ≤ v → v < es.length → s.left.length = es.length → s.order.length + s.zeros ≤ es.length →
    Gr B w ev es → (∀ b, B b → b < w.heap.size) → Own ic 1 w 21 gl es.length s.left → Orw w 21 ov s.order (fun g => B g ∨ g = gl) →
    Calls Try.prog 22 #[ev, .int .i32 v, .bool back, slc gl es.length, ov] w fun r w' => DfsPost es back v s gl (fun g => B g ∨ g = gl) ov w r w' := by
  have HWI : Hid (Within (adjOf es back) es.length) := adjOf_within hid back
  have hn := hf.1
  have HF : Hid (Fits es) := hf
  have HID : Hid (Ids es) := hid
  clear hf hid
  induction m with
  | zero =>
    intro s v w ev ov h1 h2 h3 h4 h5
    have := St.enter_zeros s v (by omega) h2
    omega
  | succ m ih =>
    intro s v w ev ov hz h0 hv0 hvn hl hsum hg hB hle hor
    obtain ⟨x, rfl⟩ := Int.eq_ofNat_of_zero_le hv0
    have hx : x < es.length := by omega
    have hez : (s.enter x).zeros + 1 = s.zeros := St.enter_zeros s x (by omega) h0
    have hl0 : s.left.length = es.length := hl
    have HL : Hid (s.left.length = es.length) := hl
    have HGL : Hid (¬ B gl) := hgl
    have hxl : x < s.left.length := by omega
    obtain ⟨a, c, rfl⟩ := hg.slice
    have HG : Hid (Gr B w (.slice a es.length c) es) := hg
    clear hg hl hv0 hvn
    have HOR : Hid (Orw w 21 ov s.order (fun g => B g ∨ g = gl)) := hor
    have HB : Hid (∀ b, B b → b < w.heap.size) := hB
    clear hor hB hl0
    unfold slc
    go_enter Try.func22, Try.ntmps22
    go_upto_region 2 with (refine wpList_store_own rfl 21 _ _ rfl ic_len 21 gl es.length s.left x (-1) _ rfl (by simp) _ rfl rfl (ic_one _) Try.size21 (by exact hle) (by exact hxl) ?_; intro w1 ho1 hk1)
    have HG1 : Hid (Gr B w1 (.slice a es.length c) es) := HG.out.kp hk1 (fun b hb e => HGL.out (e ▸ hb))
    have HOR1 : Hid (Orw w1 21 ov s.order (fun g => B g ∨ g = gl)) := HOR.out.kp hk1 (fun g hg e => (HOR.out.apart g hg).2 (.inr e))
    obtain ⟨b, o, y, d, bi, rfl, -, hc, hbi, hs⟩ := HG1.out.list hx
    have hll := HF.out.2 es[x] (List.getElem_mem hx)
    have hidl := HID.out es[x] (List.getElem_mem hx)
    have HADJ : Hid (∀ k, k < es[x].length → (adjOf es false x)[k]? = es[x][k]? ∧ (adjOf es true x)[k]? = es[x][es[x].length - 1 - k]?) := fun k hk => adjOf_get hx hk
    have HAL : Hid ((adjOf es back x).length = es[x].length) := by
      rw [adjOf_len, List.getD_eq_getElem?_getD, Int.toNat_natCast, List.getElem?_eq_getElem hx]; rfl
    generalize es[x] = l at hc hbi hs hll hidl HADJ HAL
    have HS : Hid (Sl ic 1 w1 bi (.slice y l.length d) l) := hs
    have HIDL : Hid (∀ x ∈ l, 0 ≤ x ∧ x < (es.length : Int)) := hidl
    have HBI : Hid (0 < l.length → B bi) := hbi
    clear hs hidl hbi
    have hk1' : Kp (Turn gl ov) w w1 := hk1.mono (fun i _ e => .inl e)
    clear hk1
    have hsz1 := hk1'.size
    go_wp2_with fail
    go_loopw [4, 12] (fun t4 t12 w' => ∃ (k : Nat) (t : St) (ov' : Value), k ≤ l.length ∧ t12 = .int .i64 k ∧ ov' = t4 ∧ Hid (Dfss (adjOf es back) ((adjOf es back x).take k) (s.enter x) t) ∧ Own ic 1 w' 21 gl es.length t.left ∧ Hid (Orw w' 21 ov' t.order (fun g => B g ∨ g = gl)) ∧ Hid (From w ov ov') ∧ Kp (Turn gl ov) w w' ∧ Hid (Gr B w' (.slice (some ⟨b, o, none⟩) es.length c) es) ∧ Hid (Sl ic 1 w' bi (.slice y l.length d) l)) (fun _ t12 _ => l.length - (intOf t12).toNat)
    case atStart => exact ⟨0, s.enter x, ov, by omega, rfl, rfl, by rw [List.take_zero]; exact .nil, ho1, HOR1, From.refl w ov, hk1', HG1, HS⟩
    case round =>
      clear ho1 HOR1 hk1' HG1 HS hc HOR hle HG hsz1
      obtain ⟨k, t, ov1, hkl, rfl, rfl, HD, hlt, HOR, HFR, hk, HG, HS⟩ := hrel
      have hszr := hk.size
      have htl : t.left.length = es.length := by rw [Dfss.len HD.out]; simpa [St.enter] using HL.out
      have HTL : Hid (t.left.length = es.length) := htl
      have hsum2 : t.order.length + t.zeros ≤ s.order.length + (s.enter x).zeros := Dfss.sum HWI.out (by simpa [St.enter] using HL.out) (fun q hq => HWI.out x q (List.mem_of_mem_take hq)) HD.out
      have hzt : t.zeros ≤ m := by have := Dfss.mono HD.out; omega
      clear htl
      by_cases hkl2 : k < l.length
      · cases back
        · obtain ⟨q, hq⟩ : ∃ q : Nat, k = q := ⟨_, rfl⟩
          have hql : q < l.length := by omega
          have hadj : (adjOf es false x)[k]? = some l[q] := by rw [(HADJ.out k hkl2).1, hq, List.getElem?_eq_getElem hql]
          obtain ⟨oo, rfl, hcell⟩ := HS.out.cell (g := fun x => .int .i32 x) (fun _ => rfl) hql
          have hin := HIDL.out l[q] (List.getElem_mem hql)
          subst hq
          generalize l[k] = y0 at hadj hcell hin
          obtain ⟨z, rfl⟩ := Int.eq_ofNat_of_zero_le hin.1
          have hz0 : z < es.length := by have := hin.2; omega
          have HADK : Hid ((adjOf es false x)[k]? = some (z : Int)) := hadj
          clear hadj hin
          have hztl : z < t.left.length := by rw [HTL.out]; exact hz0
          have hlc := hlt.cell (p := fun x => .int .i32 x) (fun _ => rfl) hztl
          have HAT : Hid (t.at z = t.left[z]) := St.at_get t z hztl
          by_cases hzero : t.left[z] = 0
          · have HAT0 : Hid (t.at z = 0) := by rw [HAT.out]; exact hzero
            rw [hzero] at hlc
            clear hzero
            go_wp2_with fail
            refine (ih t z _ _ ov1 hzt HAT0.out (by omega) (by omega) HTL.out (by omega) HG.out (fun b hb => Nat.lt_of_lt_of_le (HB.out b hb) hszr) hlt HOR.out).mono ?_
            rintro r w2 ⟨t2, ov2, rfl, hd2, ho2, hor2, hfr2, hk2⟩
            go_wp2_with fail
            go_roundw
            case rel =>
              refine ⟨k + 1, t2, ov2, by omega, by go_num, rfl, ?_, ho2, hor2, HFR.out.trans hfr2 hszr, ?_, ?_, ?_⟩
              · rw [adjOf_take HADK.out]
                exact HD.out.append (.take HAT0.out hd2 .nil)
              · refine hk.trans hk2 (fun i hi e => ?_)
                rcases e with e | e
                · exact .inl e
                · rcases HFR.out i e with e | e
                  · exact .inr e
                  · omega
              · refine HG.out.kp hk2 (fun b hb e => ?_)
                rcases e with e | e
                · exact HGL.out (e ▸ hb)
                · exact (HOR.out.apart b e).2 (.inl hb)
              · refine HS.out.kp0 hk2 (fun h e => ?_)
                have hb := HBI.out h
                rcases e with e | e
                · exact HGL.out (e ▸ hb)
                · exact (HOR.out.apart bi e).2 (.inl hb)
            case measure => simp [intOf]; omega
          · have hzb : (t.left[z] == 0) = false := by simpa using hzero
            have HAT0 : Hid (t.at z ≠ 0) := by rw [HAT.out]; exact hzero
            clear hzero
            go_wp2_with fail
            go_roundw
            case rel =>
              refine ⟨k + 1, t, ov1, by omega, by go_num, rfl, ?_, hlt, HOR, HFR, hk, HG, HS⟩
              rw [adjOf_take HADK.out]
              exact HD.out.append (.skip HAT0.out .nil)
            case measure => simp [intOf]; omega
        · obtain ⟨q, hq⟩ : ∃ q : Nat, l.length - 1 - k = q := ⟨_, rfl⟩
          have hql : q < l.length := by omega
          have hadj : (adjOf es true x)[k]? = some l[q] := by rw [(HADJ.out k hkl2).2, hq, List.getElem?_eq_getElem hql]
          obtain ⟨oo, rfl, hcell⟩ := HS.out.cell (g := fun x => .int .i32 x) (fun _ => rfl) hql
          have hin := HIDL.out l[q] (List.getElem_mem hql)
          subst hq
          generalize l[l.length - 1 - k] = y0 at hadj hcell hin
          obtain ⟨z, rfl⟩ := Int.eq_ofNat_of_zero_le hin.1
          have hz0 : z < es.length := by have := hin.2; omega
          have HADK : Hid ((adjOf es true x)[k]? = some (z : Int)) := hadj
          clear hadj hin
          have hztl : z < t.left.length := by rw [HTL.out]; exact hz0
          have hlc := hlt.cell (p := fun x => .int .i32 x) (fun _ => rfl) hztl
          have HAT : Hid (t.at z = t.left[z]) := St.at_get t z hztl
          by_cases hzero : t.left[z] = 0
          · have HAT0 : Hid (t.at z = 0) := by rw [HAT.out]; exact hzero
            rw [hzero] at hlc
            clear hzero
            go_wp2_with fail
            refine (ih t z _ _ ov1 hzt HAT0.out (by omega) (by omega) HTL.out (by omega) HG.out (fun b hb => Nat.lt_of_lt_of_le (HB.out b hb) hszr) hlt HOR.out).mono ?_
            rintro r w2 ⟨t2, ov2, rfl, hd2, ho2, hor2, hfr2, hk2⟩
            go_wp2_with fail
            go_roundw
            case rel =>
              refine ⟨k + 1, t2, ov2, by omega, by go_num, rfl, ?_, ho2, hor2, HFR.out.trans hfr2 hszr, ?_, ?_, ?_⟩
              · rw [adjOf_take HADK.out]
                exact HD.out.append (.take HAT0.out hd2 .nil)
              · refine hk.trans hk2 (fun i hi e => ?_)
                rcases e with e | e
                · exact .inl e
                · rcases HFR.out i e with e | e
                  · exact .inr e
                  · omega
              · refine HG.out.kp hk2 (fun b hb e => ?_)
                rcases e with e | e
                · exact HGL.out (e ▸ hb)
                · exact (HOR.out.apart b e).2 (.inl hb)
              · refine HS.out.kp0 hk2 (fun h e => ?_)
                have hb := HBI.out h
                rcases e with e | e
                · exact HGL.out (e ▸ hb)
                · exact (HOR.out.apart bi e).2 (.inl hb)
            case measure => simp [intOf]; omega
          · have hzb : (t.left[z] == 0) = false := by simpa using hzero
            have HAT0 : Hid (t.at z ≠ 0) := by rw [HAT.out]; exact hzero
            clear hzero
            go_wp2_with fail
            go_roundw
            case rel =>
              refine ⟨k + 1, t, ov1, by omega, by go_num, rfl, ?_, hlt, HOR, HFR, hk, HG, HS⟩
              rw [adjOf_take HADK.out]
              exact HD.out.append (.skip HAT0.out .nil)
            case measure => simp [intOf]; omega
      · have hkk : k = l.length := by omega
        have HDA : Hid (Dfss (adjOf es back) (adjOf es back x) (s.enter x) t) := by
          have := HD.out
          rwa [List.take_of_length_le (by rw [HAL.out]; omega)] at this
        clear HD
        have hxt : x < t.left.length := by rw [HTL.out]; exact hx
        have htb : t.order.length + 1 ≤ es.length := by omega
        obtain ⟨hown, hap⟩ := HOR.out
        have hown' := ((Kp.refl No wr).alloc (.cells #[.int .i32 x] 21 (0, 0))).owns hown (fun _ _ => no_not _)
        clear hown
        go_upto_region 13 with (at_builtin; refine wpList_append_row rfl _ _ 33 rfl ic_len (by omega) ic_one 21 (.int .i32 0) 4 Try.underlying33 Try.info21 rfl ov1 t.order rfl (by exact hown') _ 0 _ _ [(x : Int)] rfl rfl ?hat (by simp) (by simp; omega) (by omega) ?_)
        case hat => exact at_row (l := [.int .i32 x]) (heap_alloc_new _ _)
        intro g cap w2 ho2 hk2 hg2
        have hkB : Kp (fun j => ov1.ownBlock = some j) wr w2 := ((Kp.refl _ wr).alloc _).trans hk2 (fun _ _ h => h)
        have hlt2 := hlt.kp hkB (fun e => (hap gl e).2 (.inr rfl))
        have hgo : ov1.ownBlock = some g ∨ wr.heap.size ≤ g := hg2.imp id (fun h => by omega)
        have HGO : Hid (ov1.ownBlock = some g ∨ wr.heap.size ≤ g) := hgo
        have hglr := hlt.lt
        have hgne : g ≠ gl := by
          rcases hgo with h | h
          · exact fun e => (hap g h).2 (.inr e)
          · omega
        clear hk2 hg2 hown' hgo
        go_wp2_with (refine wpList_store_own rfl 21 _ _ rfl ic_len 21 gl es.length t.left x (t.order.length + 1) _ rfl (by simp) _ rfl rfl (ic_one _) Try.size21 (by exact hlt2) (by exact hxt) ?_; intro w3 ho3 hk3)
        go_ret
        refine ⟨⟨t.leave x, .slice (some ⟨g, 0, none⟩) (t.order ++ [(x : Int)]).length cap, by rw [List.length_append]; rfl, .mk HDA.out, ho3, ⟨ho2.kp hk3 hgne, ?_⟩, ?_, ?_⟩⟩
        · intro g' hg'
          obtain rfl : g = g' := by simpa [Value.ownBlock] using hg'
          refine ⟨Nat.lt_of_lt_of_le ho2.lt hk3.size, ?_⟩
          rcases HGO.out with h | h
          · exact (hap g h).2
          · rintro (h1 | h1)
            · have := HB.out g h1; omega
            · exact hgne h1
        · intro g' hg'
          obtain rfl : g = g' := by simpa [Value.ownBlock] using hg'
          rcases HGO.out with h | h
          · exact HFR.out g h
          · exact .inr (by omega)
        · refine (hk.trans hkB (fun i hi e => ?_)).trans hk3 (fun i hi e => .inl e)
          rcases HFR.out i e with e | e
          · exact .inr e
          · omega
end Go.Proofs.Qxb6003663a
