/-
  The contracts of the guards: bytes, edgesFit, idsInRange.
-/
import Derived.Test.Qxb6003663aBase
namespace Go.Proofs.Qxb6003663a
open Go.RowKit

/-- It answers a bool; if true, then p. -/
def Says (p : Prop) (r : Ending) : Prop := ∃ rb : Bool, r = .returned (.bool rb) ∧ (rb = true → p)
theorem Says.no (p : Prop) : Says p (.returned (.bool false)) := ⟨false, rfl, fun h => by cases h⟩
theorem Says.yes {p : Prop} (h : p) : Says p (.returned (.bool true)) := ⟨true, rfl, fun _ => h⟩

set_option maxHeartbeats 1000000 in
theorem bytes20_calls (B : Nat → Prop) (v : Value) (es : List (List Int)) (x : Int) (bk : Bool) (w : World) (hg : Gr B w v es) (hm : es.length ≤ maxLen) (hl : ∀ l ∈ es, l.length ≤ maxLen) :
    Calls Try.prog 20 #[v, .int .i32 x, .bool bk] w fun r w' => Says True r ∧ Kp No w w' := by
  obtain ⟨a, c, rfl⟩ := hg.slice
  unfold maxLen at hm hl
  by_cases h1 : es.length ≤ 1048576
  · go_enter Try.func20, Try.ntmps20
    go_wp2_with fail
    go_loopw [7, 8] (fun t7 t8 w' => ∃ (i m : Nat), i ≤ es.length ∧ m ≤ 1048576 ∧ t8 = .int .i64 i ∧ t7 = .int .i64 m ∧ Kp No w w') (fun _ t8 _ => es.length - (intOf t8).toNat)
    case atStart => exact ⟨0, es.length, by omega, h1, rfl, rfl, Kp.refl _ _⟩
    case round =>
      obtain ⟨i, m, hi, hm2, rfl, rfl, hk⟩ := hrel
      by_cases hlt : i < es.length
      · obtain ⟨b, o, y, d, bi, rfl, -, hc, -, -⟩ := (hg.kp hk (fun _ _ => no_not _)).list hlt
        have hll := hl es[i] (List.getElem_mem hlt)
        generalize es[i].length = L at hc hll
        clear hg hl
        by_cases h2 : L ≤ 1048576
        · by_cases h3 : m + L ≤ 1048576
          · go_wp2_with fail
            go_roundw
            case rel => exact ⟨i + 1, m + L, by omega, h3, by go_num, by go_num, hk⟩
            case measure => simp [intOf]; omega
          · have h3' : 1048576 < m + L := by omega
            go_wp2_with fail
            go_ret
            exact ⟨Says.no _, hk⟩
        · have h2' : 1048576 < L := by omega
          go_wp2_with fail
          go_ret
          exact ⟨Says.no _, hk⟩
      · clear hg hl
        go_wp2_with fail
        go_ret
        exact ⟨Says.yes trivial, hk⟩
  · have h1' : 1048576 < es.length := by omega
    go_enter Try.func20, Try.ntmps20
    go_wp2_with fail
    go_ret
    exact ⟨Says.no _, Kp.refl _ _⟩

set_option maxHeartbeats 1000000 in
theorem bytes24_calls (B : Nat → Prop) (v : Value) (es : List (List Int)) (x y : Int) (bk bl : Bool) (w : World) (hg : Gr B w v es) (hm : es.length ≤ maxLen) (hl : ∀ l ∈ es, l.length ≤ maxLen) :
    Calls Try.prog 24 #[v, .int .i32 x, .bool bk, .int .i32 y, .bool bl] w fun r w' => Says True r ∧ Kp No w w' := by
  obtain ⟨a, c, rfl⟩ := hg.slice
  unfold maxLen at hm hl
  by_cases h1 : es.length ≤ 1048576
  · go_enter Try.func24, Try.ntmps24
    go_wp2_with fail
    go_loopw [11, 12] (fun t7 t8 w' => ∃ (i m : Nat), i ≤ es.length ∧ m ≤ 1048576 ∧ t8 = .int .i64 i ∧ t7 = .int .i64 m ∧ Kp No w w') (fun _ t8 _ => es.length - (intOf t8).toNat)
    case atStart => exact ⟨0, es.length, by omega, h1, rfl, rfl, Kp.refl _ _⟩
    case round =>
      obtain ⟨i, m, hi, hm2, rfl, rfl, hk⟩ := hrel
      by_cases hlt : i < es.length
      · obtain ⟨b, o, y, d, bi, rfl, -, hc, -, -⟩ := (hg.kp hk (fun _ _ => no_not _)).list hlt
        have hll := hl es[i] (List.getElem_mem hlt)
        generalize es[i].length = L at hc hll
        clear hg hl
        by_cases h2 : L ≤ 1048576
        · by_cases h3 : m + L ≤ 1048576
          · go_wp2_with fail
            go_roundw
            case rel => exact ⟨i + 1, m + L, by omega, h3, by go_num, by go_num, hk⟩
            case measure => simp [intOf]; omega
          · have h3' : 1048576 < m + L := by omega
            go_wp2_with fail
            go_ret
            exact ⟨Says.no _, hk⟩
        · have h2' : 1048576 < L := by omega
          go_wp2_with fail
          go_ret
          exact ⟨Says.no _, hk⟩
      · clear hg hl
        go_wp2_with fail
        go_ret
        exact ⟨Says.yes trivial, hk⟩
  · have h1' : 1048576 < es.length := by omega
    go_enter Try.func24, Try.ntmps24
    go_wp2_with fail
    go_ret
    exact ⟨Says.no _, Kp.refl _ _⟩

/-- What edgesFit says. -/
def Fits (es : List (List Int)) : Prop := es.length ≤ 43690 ∧ ∀ l ∈ es, l.length ≤ 262144

set_option maxHeartbeats 1000000 in
theorem edgesFit_calls (B : Nat → Prop) (v : Value) (es : List (List Int)) (w : World) (hg : Gr B w v es) (hm : es.length ≤ maxLen) (hl : ∀ l ∈ es, l.length ≤ maxLen) :
    Calls Try.prog 10 #[v] w fun r w' => Says (Fits es) r ∧ Kp No w w' := by
  obtain ⟨a, c, rfl⟩ := hg.slice
  unfold maxLen at hm hl
  by_cases h1 : es.length ≤ 65536
  · by_cases h0 : 24 * es.length ≤ 1048576
    · go_enter Try.func10, Try.ntmps10
      go_wp2_with fail
      go_loopw [3, 4] (fun t3 t4 w' => ∃ (i m : Nat), i ≤ es.length ∧ m ≤ 1048576 ∧ Hid (∀ j (h : j < es.length), j < i → es[j].length ≤ 262144) ∧ t4 = .int .i64 i ∧ t3 = .int .i64 m ∧ Kp No w w') (fun _ t4 _ => es.length - (intOf t4).toNat)
      case atStart => exact ⟨0, 24 * es.length, by omega, h0, fun j _ h => by omega, rfl, by go_num, Kp.refl _ _⟩
      case round =>
        obtain ⟨i, m, hi, hm2, hj, rfl, rfl, hk⟩ := hrel
        by_cases hlt : i < es.length
        · obtain ⟨b, o, y, d, bi, rfl, -, hc, -, -⟩ := (hg.kp hk (fun _ _ => no_not _)).list hlt
          have hll := hl es[i] (List.getElem_mem hlt)
          have HL : Hid (∀ L, es[i].length = L → L ≤ 262144 → ∀ j (h : j < es.length), j < i + 1 → es[j].length ≤ 262144) := by
            intro L h1 h2 j h h3
            by_cases h4 : j < i
            · exact hj.out j h h4
            · obtain rfl : j = i := by omega
              omega
          generalize hLe : es[i].length = L at hc hll
          have HE : Hid (es[i].length = L) := hLe
          clear hg hl hLe
          by_cases h2 : L ≤ 1048576
          · by_cases h3 : m + 4 * L ≤ 1048576
            · go_wp2_with fail
              go_roundw
              case rel => exact ⟨i + 1, m + 4 * L, by omega, h3, HL.out L HE.out (by omega), by go_num, by go_num, hk⟩
              case measure => simp [intOf]; omega
            · have h3' : 1048576 < m + 4 * L := by omega
              go_wp2_with fail
              go_ret
              exact ⟨Says.no _, hk⟩
          · have h2' : 1048576 < L := by omega
            go_wp2_with fail
            go_ret
            exact ⟨Says.no _, hk⟩
        · clear hg hl
          go_wp2_with fail
          go_ret
          refine ⟨Says.yes ⟨by omega, fun l hl => ?_⟩, hk⟩
          obtain ⟨j, h, rfl⟩ := List.getElem_of_mem hl
          exact hj.out j h (by omega)
    · have h0' : 1048576 < 24 * es.length := by omega
      go_enter Try.func10, Try.ntmps10
      go_wp2_with fail
      go_ret
      exact ⟨Says.no _, Kp.refl _ _⟩
  · have h1' : 65536 < es.length := by omega
    go_enter Try.func10, Try.ntmps10
    go_wp2_with fail
    go_ret
    exact ⟨Says.no _, Kp.refl _ _⟩

/-- What idsInRange says. -/
def Ids (es : List (List Int)) : Prop := ∀ l ∈ es, ∀ x ∈ l, 0 ≤ x ∧ x < es.length
def Wide (es : List (List Int)) : Prop := ∀ l ∈ es, ∀ x ∈ l, -2147483648 ≤ x ∧ x ≤ 2147483647

set_option maxHeartbeats 2000000 in
theorem ids_calls (B : Nat → Prop) (v : Value) (es : List (List Int)) (w : World) (hg : Gr B w v es) (hf : Fits es) (hw : Wide es) :
    Calls Try.prog 11 #[v] w fun r w' => Says (Ids es) r ∧ Kp No w w' := by
  obtain ⟨a, c, rfl⟩ := hg.slice
  have hn := hf.1
  have HF : Hid (Fits es) := hf
  have HW : Hid (Wide es) := hw
  have HG : Hid (Gr B w (.slice a es.length c) es) := hg
  clear hf hw hg
  go_enter Try.func11, Try.ntmps11
  go_wp2_with fail
  go_loopw [4] (fun t4 w' => ∃ (i : Nat), i ≤ es.length ∧ Hid (∀ j (h : j < es.length), j < i → ∀ x ∈ es[j], 0 ≤ x ∧ x < es.length) ∧ t4 = .int .i64 i ∧ Kp No w w') (fun t4 _ => es.length - (intOf t4).toNat)
  case atStart => exact ⟨0, by omega, fun j _ h => by omega, rfl, Kp.refl _ _⟩
  case round =>
    obtain ⟨i, hi, hj, rfl, hk⟩ := hrel
    by_cases hlt : i < es.length
    · obtain ⟨b, o, y, d, bi, rfl, -, hc, -, hs⟩ := (HG.out.kp hk (fun _ _ => no_not _)).list hlt
      have hll := HF.out.2 es[i] (List.getElem_mem hlt)
      have hwl := HW.out es[i] (List.getElem_mem hlt)
      generalize hLe : es[i] = l at hc hll hs hwl
      have HE : Hid (es[i] = l) := hLe
      clear hLe
      have HWL : Hid (∀ x ∈ l, -2147483648 ≤ x ∧ x ≤ 2147483647) := hwl
      have HS : Hid (Sl ic 1 _ bi (.slice y l.length d) l) := hs
      clear hwl hs
      go_wp2_with fail
      go_loopw [19] (fun t19 w'' => ∃ (k : Nat), k ≤ l.length ∧ Hid (∀ j (h : j < l.length), j < k → 0 ≤ l[j] ∧ l[j] < es.length) ∧ t19 = .int .i64 k ∧ Kp No w w'' ∧ Hid (Sl ic 1 w'' bi (.slice y l.length d) l)) (fun t19 _ => l.length - (intOf t19).toNat)
      case atStart => exact ⟨0, by omega, fun j _ h => by omega, rfl, hk, HS⟩
      case round =>
        clear HS
        obtain ⟨k, hkl, hj2, rfl, hk1, HS⟩ := hrel
        by_cases hlt2 : k < l.length
        · obtain ⟨o2, rfl, hx⟩ := HS.out.cell (g := fun x => .int .i32 x) (fun _ => rfl) hlt2
          have hwx := HWL.out l[k] (List.getElem_mem hlt2)
          have HN : Hid (0 ≤ l[k] ∧ l[k] < es.length → ∀ j (h : j < l.length), j < k + 1 → 0 ≤ l[j] ∧ l[j] < es.length) := by
            intro h0 j h h3
            by_cases h4 : j < k
            · exact hj2.out j h h4
            · obtain rfl : j = k := by omega
              exact h0
          generalize l[k] = x at hx hwx HN
          obtain ⟨hx1, hx2⟩ := hwx
          by_cases hneg : x < 0
          · go_wp2_with fail
            go_ret
            exact ⟨Says.no _, hk1⟩
          · by_cases hge : (es.length : Int) ≤ x
            · have hneg' : 0 ≤ x := by omega
              go_wp2_with fail
              go_ret
              exact ⟨Says.no _, hk1⟩
            · have hneg' : 0 ≤ x := by omega
              have hge' : x < es.length := by omega
              go_wp2_with fail
              go_roundw
              case rel => exact ⟨k + 1, by omega, HN.out ⟨hneg', hge'⟩, by go_num, hk1, HS⟩
              case measure => simp [intOf]; omega
        · go_wp2_with fail
          go_roundw
          case rel =>
            refine ⟨i + 1, by omega, ?_, by go_num, hk1⟩
            intro j h h3 x hx
            by_cases h4 : j < i
            · exact hj.out j h h4 x hx
            · obtain rfl : j = i := by omega
              rw [HE.out] at hx
              obtain ⟨q, hq, rfl⟩ := List.getElem_of_mem hx
              exact hj2.out q hq (by omega)
          case measure => simp [intOf]; omega
    · go_wp2_with fail
      go_ret
      refine ⟨Says.yes fun l hl => ?_, hk⟩
      obtain ⟨j, h, rfl⟩ := List.getElem_of_mem hl
      exact hj.out j h (by omega)
end Go.Proofs.Qxb6003663a
