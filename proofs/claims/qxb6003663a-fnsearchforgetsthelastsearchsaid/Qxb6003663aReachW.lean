/-
  zzReach.
-/
import Derived.Test.Qxb6003663aDfsW
import Derived.Test.Qxb6003663aPlain5
namespace Go.Proofs.Qxb6003663a
open Go.RowKit

theorem own_one {α : Type} {f : α → List Value} {k : Nat} {w : World} {t : TypeId} {g : Nat} {x : α} (hf : ∀ a, (f a).length = k) (h : w.heap[g]? = some (.cells (f x).toArray t (0, 0))) : Own f k w t g 1 [x] := by
  rw [own_iff hf]
  exact ⟨_, h, by simp, by simp [maxLen], by simp [hf], by simp; rw [List.take_of_length_le (by rw [hf]; omega)]⟩

set_option maxHeartbeats 2000000 in
set_option maxRecDepth 100000 in
theorem reach_calls (es : List (List Int)) (hf : Fits es) (hid : Ids es) (B : Nat → Prop) (ev : Value) (r : Int) (h0 : 0 ≤ r) (hr : r < es.length) (w : World) (hg : Gr B w ev es) (hB : ∀ b, B b → b < w.heap.size) :
    Calls Try.prog 26 #[ev, .int .i32 r] w fun e w' => ∃ seen b v, e = .returned v ∧ Sl bc 1 w' b v seen ∧ Reached es r seen ∧ Kp No w w' := by
  obtain ⟨x, rfl⟩ := Int.eq_ofNat_of_zero_le h0
  have hx : x < es.length := by omega
  have hn := hf.1
  have HF : Hid (Fits es) := hf
  have HID : Hid (Ids es) := hid
  have HB : Hid (∀ b, B b → b < w.heap.size) := hB
  obtain ⟨a, c, rfl⟩ := hg.slice
  have HG : Hid (Gr B w (.slice a es.length c) es) := hg
  clear hf hid hB hg h0 hr
  go_enter Try.func26, Try.ntmps26
  go_upto_region 2 with (at_make; refine wpList_make_row rfl _ _ 40 rfl bc_len 4 false _ 1 Try.underlying40 Try.info4 rfl es.length _ rfl rfl rfl (by omega) (by omega) ?_; intro w1 ho1 hk1)
  go_upto_region 3 with (refine wpList_store_own rfl 4 _ _ rfl bc_len 4 w.heap.size es.length (List.replicate es.length false) x true _ rfl (by simp) _ rfl rfl (bc_one _) Try.size4 (by exact ho1) (by simpa using hx) ?_; intro w2 ho2 hk2)
  have hk02 : Kp No w w2 := hk1.trans hk2 (fun i hi e => by omega)
  have hs2 := ho2.lt
  clear ho1 hk1 hk2
  have HO2 : Hid (Own bc 1 (w2.alloc (.cells #[.int .i32 x] 21 (0, 0))) 4 w.heap.size es.length ((List.replicate es.length false).set x true)) := ho2.kp ((Kp.refl No w2).alloc _) (no_not _)
  have HQ2 : Hid (Own ic 1 (w2.alloc (.cells #[.int .i32 x] 21 (0, 0))) 21 w2.heap.size 1 [(x : Int)]) := own_one (x := (x : Int)) ic_len (heap_alloc_new _ _)
  have HK2 : Hid (Kp No w (w2.alloc (.cells #[.int .i32 x] 21 (0, 0)))) := hk02.alloc _
  clear ho2 hk02
  go_wp2_with fail
  go_loopw [6, 7] (fun t6 t7 w' => ∃ (h : Nat) (seen : List Bool) (q : List Int) (gk cap : Nat), h ≤ q.length ∧ t7 = .int .i64 h ∧ t6 = .slice (some ⟨gk, 0, none⟩) q.length cap ∧ w.heap.size < gk ∧ Hid (Own ic 1 w' 21 gk cap q) ∧ Hid (Own bc 1 w' 4 w.heap.size es.length seen) ∧ Hid (RInv es x seen q h) ∧ Hid (Kp No w w')) (fun _ t7 _ => es.length - (intOf t7).toNat)
  case atStart => exact ⟨0, _, [(x : Int)], w2.heap.size, 1, by omega, rfl, rfl, hs2, HQ2, HO2, RInv.start (by omega) (by omega), HK2⟩
  case round =>
    clear HQ2 HO2 HK2
    obtain ⟨h, seen, q, gk, cap, hh, rfl, rfl, hgk, HQ, HO, HR, HK⟩ := hrel
    have hql : q.length ≤ 43690 := by have := HR.out.sum; omega
    by_cases hlt : h < q.length
    · have hqc := HQ.out.cell (p := fun x => .int .i32 x) (fun _ => rfl) hlt
      have hin := HR.out.rng q[h] (List.getElem_mem hlt)
      have HQH : Hid (q[h]? = some q[h]) := List.getElem?_eq_getElem hlt
      have hhn : h < es.length := by have := HR.out.sum; omega
      generalize q[h] = v0 at hqc hin HQH
      obtain ⟨z, rfl⟩ := Int.eq_ofNat_of_zero_le hin.1
      have hz : z < es.length := by have := hin.2; omega
      clear hin
      obtain ⟨b, o, y, d, bi, rfl, -, hc, hbi, hs⟩ := (HG.out.kp HK.out (fun _ _ => no_not _)).list hz
      have hll := HF.out.2 es[z] (List.getElem_mem hz)
      have hidl := HID.out es[z] (List.getElem_mem hz)
      have HEL : Hid (es.getD (z : Int).toNat [] = es[z]) := by rw [List.getD_eq_getElem?_getD, Int.toNat_natCast, List.getElem?_eq_getElem hz]; rfl
      generalize es[z] = l at hc hbi hs hll hidl HEL
      have HS : Hid (Sl ic 1 wr bi (.slice y l.length d) l) := hs
      have HIDL : Hid (∀ x ∈ l, 0 ≤ x ∧ x < (es.length : Int)) := hidl
      have HBI : Hid (0 < l.length → bi < w.heap.size) := fun h => HB.out bi (hbi h)
      clear hs hidl hbi
      go_wp2_with fail
      go_loopw [6, 34] (fun t6 t34 w' => ∃ (k : Nat) (seen : List Bool) (q : List Int) (gk cap : Nat), k ≤ l.length ∧ t34 = .int .i64 k ∧ t6 = .slice (some ⟨gk, 0, none⟩) q.length cap ∧ w.heap.size < gk ∧ h < q.length ∧ Hid (q[h]? = some (z : Int)) ∧ Hid (∀ x ∈ l.take k, sn seen x = true) ∧ Hid (Own ic 1 w' 21 gk cap q) ∧ Hid (Own bc 1 w' 4 w.heap.size es.length seen) ∧ Hid (RInv es x seen q h) ∧ Hid (Kp No w w') ∧ Hid (Sl ic 1 w' bi (.slice y l.length d) l)) (fun _ t34 _ => l.length - (intOf t34).toNat)
      case atStart => exact ⟨0, seen, q, gk, cap, by omega, rfl, rfl, hgk, hlt, HQH, (fun x hx => by simp at hx), HQ, HO, HR, HK, HS⟩
      case round =>
        clear HQ HO HR HK HS HQH hqc hc hgk hlt hql hh
        obtain ⟨k, seen, q, gk, cap, hk0, rfl, rfl, hgk, hlt, HQH, HSN, HQ, HO, HR, HK, HS⟩ := hrel
        have hql : q.length ≤ 43690 := by have := HR.out.sum; omega
        by_cases hkl : k < l.length
        · obtain ⟨oo, rfl, hcell⟩ := HS.out.cell (g := fun x => .int .i32 x) (fun _ => rfl) hkl
          have hin := HIDL.out l[k] (List.getElem_mem hkl)
          have HTK : Hid (l.take (k + 1) = l.take k ++ [l[k]]) := List.take_succ_eq_append_getElem hkl
          have HMEM : Hid (l[k] ∈ l) := List.getElem_mem hkl
          generalize l[k] = y0 at hcell hin HTK HMEM
          obtain ⟨u, rfl⟩ := Int.eq_ofNat_of_zero_le hin.1
          have hu : u < es.length := by have := hin.2; omega
          clear hin
          have hul : u < seen.length := by rw [HR.out.len]; exact hu
          have hsc := HO.out.cell (p := fun x => .bool x) (fun _ => rfl) hul
          have HSU : Hid (sn seen u = seen[u]) := by
            unfold sn; rw [List.getD_eq_getElem?_getD, Int.toNat_natCast, List.getElem?_eq_getElem hul]; rfl
          have hgs := HQ.out.lt
          cases hb : seen[u] with
          | true =>
            rw [hb] at hsc HSU
            clear hb
            go_wp2_with fail
            go_roundw
            case rel =>
              refine ⟨k + 1, seen, q, gk, cap, by omega, by go_num, rfl, hgk, hlt, HQH, ?_, HQ, HO, HR, HK, HS⟩
              intro x hx
              rw [HTK.out] at hx
              rcases List.mem_append.1 hx with hx | hx
              · exact HSN.out x hx
              · rw [List.mem_singleton] at hx; subst hx; exact HSU.out
            case measure => simp [intOf]; omega
          | false =>
            rw [hb] at hsc HSU
            clear hb
            go_upto_region 13 with (refine wpList_store_own rfl 4 _ _ rfl bc_len 4 w.heap.size es.length seen u true _ rfl (by simp) _ rfl rfl (bc_one _) Try.size4 (by exact HO.out) (by exact hul) ?_; intro w3 ho3 hk3)
            have HO3 : Hid (Own bc 1 w3 4 w.heap.size es.length (seen.set u true)) := ho3
            have HQ3 : Hid (Own ic 1 w3 21 gk cap q) := HQ.out.kp hk3 (fun e => by omega)
            have HK3 : Hid (Kp No w w3) := HK.out.trans hk3 (fun i hi e => by omega)
            have HS3 : Hid (Sl ic 1 w3 bi (.slice (some ⟨bi, oo, none⟩) l.length d) l) := HS.out.kp0 hk3 (fun h e => by have := HBI.out h; omega)
            clear ho3 hk3 HO HQ HK HS hcell hsc
            go_wp2_with (at_builtin; refine wpList_append_row rfl _ _ 33 rfl ic_len (by omega) ic_one 21 (.int .i32 0) 4 Try.underlying33 Try.info21 rfl (.slice (some ⟨gk, 0, none⟩) q.length cap) q rfl (by exact ((Kp.refl No w3).alloc _).owns HQ3.out (fun _ _ => no_not _)) _ 0 _ _ [(u : Int)] rfl rfl ?hat (by simp) (by simp; omega) (by omega) ?_)
            case hat => exact at_row (l := [.int .i32 u]) (heap_alloc_new _ _)
            intro g4 cap4 w4 ho4 hk4 hg4
            have hk4' : Kp (fun j => j = gk) w3 w4 := ((Kp.refl _ w3).alloc _).trans hk4 (fun i _ e => by simpa [Value.ownBlock, eq_comm] using e)
            have hg4' : w.heap.size < g4 := by
              rcases hg4 with h | h
              · have : g4 = gk := by simpa [Value.ownBlock, eq_comm] using h
                omega
              · have h' : w3.heap.size + 1 ≤ g4 := h
                have := HQ3.out.lt
                omega
            have HO4 : Hid (Own bc 1 w4 4 w.heap.size es.length (seen.set u true)) := HO3.out.kp hk4' (fun e => by omega)
            have HQ4 : Hid (Own ic 1 w4 21 g4 cap4 (q ++ [(u : Int)])) := ho4
            have HK4 : Hid (Kp No w w4) := HK3.out.trans hk4' (fun i hi e => by omega)
            have HS4 : Hid (Sl ic 1 w4 bi (.slice (some ⟨bi, oo, none⟩) l.length d) l) := HS3.out.kp0 hk4' (fun h e => by have := HBI.out h; omega)
            clear ho4 hk4 hk4' hg4 HO3 HQ3 HK3 HS3
            go_wp2_with fail
            go_roundw
            case rel =>
              refine ⟨k + 1, seen.set u true, q ++ [(u : Int)], g4, cap4, by omega, by go_num, by rw [List.length_append]; rfl, hg4', by simp; omega, ?_, ?_, HQ4, HO4, ?_, HK4, HS4⟩
              · show (q ++ [(u : Int)])[h]? = some (z : Int)
                rw [List.getElem?_append_left hlt]; exact HQH.out
              · intro x hx
                rw [HTK.out] at hx
                have hul' : (u : Int).toNat < seen.length := by simpa using hul
                rcases List.mem_append.1 hx with hx | hx
                · exact sn_up seen (u : Int) x hul' (HSN.out x hx)
                · rw [List.mem_singleton] at hx; subst hx
                  have := sn_set seen (u : Int) (u : Int) hul'
                  rw [if_pos rfl] at this
                  exact this
              · exact HR.out.add (v := (z : Int)) (x := (u : Int)) (List.mem_of_getElem? HQH.out) (by rw [HEL.out]; exact HMEM.out) (by omega) (by omega) HSU.out (by omega)
            case measure => simp [intOf]; omega
        · go_wp2_with fail
          go_roundw
          case rel =>
            refine ⟨h + 1, seen, q, gk, cap, by omega, by go_num, rfl, hgk, HQ, HO, HR.out.next HQH.out ?_, HK⟩
            intro x hx
            rw [HEL.out] at hx
            exact HSN.out x (by rw [List.take_of_length_le (by omega)]; exact hx)
          case measure => simp [intOf]; omega
    · go_wp2_with fail
      go_ret
      have h1 := HO.out.sl bc_len
      rw [HR.out.len] at h1
      exact ⟨seen, w.heap.size, _, rfl, h1, HR.out.end (by omega), HK.out⟩
end Go.Proofs.Qxb6003663a
