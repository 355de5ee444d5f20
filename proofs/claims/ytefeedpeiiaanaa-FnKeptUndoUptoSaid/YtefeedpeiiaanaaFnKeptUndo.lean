/- The walk of laws.FnKeptUndo. No statement of the seat is proved here. -/
import Derived.Test.YtefeedpeiiaanaaFnFixUndo
import Derived.Deep.DeepCutAuto
namespace Go.Proofs.Ytefeedpeiiaanaa
open Go.RowKit

theorem kstep_push (S : List (Int × Int)) (x : Int × Int) (y : Int) : kstep S (0, x, y) = (insP x S, x, true) := by
  unfold kstep
  rw [if_pos rfl]
theorem kstep_remove_in {S : List (Int × Int)} {x : Int × Int} {y : Int} (h : x ∈ S) : kstep S (2, x, y) = (S.erase x, x, true) := by
  unfold kstep
  rw [if_neg (by simp), if_neg (by simp), if_pos rfl, if_pos h]
/-- What the law asks of the rows of the kept list. -/
def UndoOk (xs : List (Int × Int)) (T : List Stp) : Prop := ∀ (i : Nat) (e : DEnt), (kall xs T)[i]? = some e → (i % 2 = 0 → e.2.2 = sortP xs) ∧ (1 ≤ i → e.1 = true)
theorem undo2 (xs : List (Int × Int)) (x : Int × Int) : UndoOk xs [(0, x, 0), (2, x, 0)] := by
  have h : kall xs [(0, x, 0), (2, x, 0)] = [(false, (0, 0), sortP xs), (true, x, insP x (sortP xs)), (true, x, sortP xs)] := by
    unfold kall
    simp only [krows, kstep_push, kstep_remove_in (mem_insP x (sortP xs)), erase_insP (sortP_ord xs)]
  intro i e he
  rw [h] at he
  match i, he with
  | 0, he => simp at he; subst he; exact ⟨fun _ => rfl, fun h => by omega⟩
  | 1, he => simp at he; subst he; exact ⟨fun h => by omega, fun _ => rfl⟩
  | 2, he => simp at he; subst he; exact ⟨fun _ => rfl, fun _ => rfl⟩
  | i + 3, he => simp at he
theorem undo4 (xs : List (Int × Int)) (x y : Int × Int) (hy : y ∈ xs) : UndoOk xs [(0, x, 0), (2, x, 0), (2, y, 0), (0, y, 0)] := by
  have hm : y ∈ sortP xs := (sortP_perm xs).mem_iff.2 hy
  have h : kall xs [(0, x, 0), (2, x, 0), (2, y, 0), (0, y, 0)] = [(false, (0, 0), sortP xs), (true, x, insP x (sortP xs)), (true, x, sortP xs), (true, y, (sortP xs).erase y), (true, y, sortP xs)] := by
    unfold kall
    simp only [krows, kstep_push, kstep_remove_in (mem_insP x (sortP xs)), erase_insP (sortP_ord xs), kstep_remove_in hm, insP_erase (sortP_ord xs) hm]
  intro i e he
  rw [h] at he
  match i, he with
  | 0, he => simp at he; subst he; exact ⟨fun _ => rfl, fun h => by omega⟩
  | 1, he => simp at he; subst he; exact ⟨fun h => by omega, fun _ => rfl⟩
  | 2, he => simp at he; subst he; exact ⟨fun _ => rfl, fun _ => rfl⟩
  | 3, he => simp at he; subst he; exact ⟨fun h => by omega, fun _ => rfl⟩
  | 4, he => simp at he; subst he; exact ⟨fun _ => rfl, fun _ => rfl⟩
  | i + 5, he => simp at he

def inR (k : Int) (n : Nat) : Bool := decide (0 ≤ k) && decide (k < n)

set_option maxRecDepth 100000 in
set_option maxHeartbeats 3200000 in
theorem fnKeptUndo_ok (A0 A1 : Option Addr) (n0 n1 c0 c1 : Nat) (x0 x1 : List Int) (key tag k : Int) (w : World) (h0 : Row w 1 A0 n0 c0 (ints x0)) (h1 : Row w 1 A1 n1 c1 (ints x1)) (hs : n0 ≤ 1073741824) :
    Calls Try.prog 11 #[.slice A0 n0 c0, .slice A1 n1 c1, .int .i64 key, .int .i64 tag, .int .i64 k] w fun e w' => e = .returned (.bool true) ∧ Ext w w' := by
  have HI := Lib.hid (items_ok A0 A1 n0 n1 c0 c1 x0 x1 w h0 h1 (by omega))
  clear h0 h1
  have hk : min n0 n1 ≤ 1073741824 := by omega
  generalize min n0 n1 = n at HI hk
  go_enter Try.func11, Try.ntmps11
  go_wp2_with fail
  refine HI.out.mono ?_
  rintro e w1 ⟨B1, q1, rfl, hr1, hx1⟩
  generalize x0.zip x1 = xs at hr1
  have hxl : xs.length = n := hr1.its_len
  have HXL := Lib.hid hxl
  have HR1 := Lib.hid hr1
  have HX1 := Lib.hid hx1
  clear hr1 hx1 hxl
  go_upto_region 4 with (fail)
  obtain ⟨W, hW⟩ : ∃ W, W = (w1.alloc (.cells #[.int .i64 key, .int .i64 tag] 28)).alloc (.cells #[.int .i64 0, .int .i64 key, .int .i64 tag, .int .i64 0, .int .i64 2, .int .i64 key, .int .i64 tag, .int .i64 0] 30) := ⟨_, rfl⟩
  rw [← hW]
  have hml2 : 2 ≤ maxLen := by unfold maxLen; omega
  have HOS : Hid (W.ownsRow w1.heap.size 30 4 (.slice (some ⟨w1.heap.size + 1, 0, none⟩) 2 2) 2 (sts [(0, (key, tag), 0), (2, (key, tag), 0)])) := by
    have h := World.ownsRow_lit (base := w1.heap.size) (e := 30) (size := 4) (w1.alloc (.cells #[.int .i64 key, .int .i64 tag] 28)) #[.int .i64 0, .int .i64 key, .int .i64 tag, .int .i64 0, .int .i64 2, .int .i64 key, .int .i64 tag, .int .i64 0] 2 (by simp) (by unfold maxLen; omega) rfl
    unfold Hid
    rw [hW, show sts [(0, (key, tag), 0), (2, (key, tag), 0)] = [.int .i64 0, .int .i64 key, .int .i64 tag, .int .i64 0, .int .i64 2, .int .i64 key, .int .i64 tag, .int .i64 0] from rfl]
    simpa using h
  have HXW : Hid (Ext w1 W) := by unfold Hid; rw [hW]; exact ((Ext.refl w1).alloc _).alloc _
  clear hW
  obtain ⟨t, ht⟩ : ∃ t, t = inR k n := ⟨_, rfl⟩
  have HT := Lib.hid ht
  clear ht
  go_cut [36] (fun s36 wx => s36 = .bool t ∧ wx = W)
  case first =>
    by_cases hk0 : 0 ≤ k
    · by_cases hkn : k < n
      · have hi : inR k n = true := by simp [inR, hk0, hkn]
        have HI2 := Lib.hid hi
        clear hi
        have d1 : decide (k ≥ 0) = true := by simpa using hk0
        have d2 : decide (k < (n : Int)) = true := by simpa using hkn
        go_wp2
        go_meet
        exact ⟨by rw [HT.out, HI2.out], rfl⟩
      · have hi : inR k n = false := by simp [inR, hkn]
        have HI2 := Lib.hid hi
        clear hi
        have d1 : decide (k ≥ 0) = true := by simpa using hk0
        have d2 : decide (k < (n : Int)) = false := by simpa using hkn
        go_wp2
        go_meet
        exact ⟨by rw [HT.out, HI2.out], rfl⟩
    · have hi : inR k n = false := by simp [inR, hk0]
      have HI2 := Lib.hid hi
      clear hi
      have d1 : decide (k ≥ 0) = false := by simpa using hk0
      go_wp2
      go_meet
      exact ⟨by rw [HT.out, HI2.out], rfl⟩
  case rest =>
    obtain ⟨rfl, rfl⟩ := hcut
    go_upto_if 36 with (fail)
    go_cut [13] (fun s13 wx => ∃ (T : List Stp) (C : Option Addr) (q m : Nat), s13 = .slice C m q ∧ m ≤ 4 ∧ Hid (T.length = m) ∧ Hid (Row wx 4 C m q (sts T)) ∧ Hid (Ext w1 wx) ∧ Hid (UndoOk xs T))
    case first =>
      cases t with
      | true =>
        have hkk : 0 ≤ k ∧ k < n := by simpa [inR] using HT.out.symm
        obtain ⟨k, rfl⟩ := Int.eq_ofNat_of_zero_le hkk.1
        have hkn : k < n := by omega
        obtain ⟨b, o, z1, z2, rfl, hzk, hc1, hc2⟩ := HR1.out.item_at (k := k) hkn
        have HZM : Hid ((z1, z2) ∈ xs) := List.mem_of_getElem? hzk.out
        have hone := sts_one [(2, (z1, z2), 0), (0, (z1, z2), 0)]
        have hb4 : (2 + 2) * 32 ≤ 140737488355328 := by omega
        have hm4 : 2 + 2 ≤ maxLen := by unfold maxLen; omega
        have hz1 := HXW.out.size
        have HC1 := Lib.hid hc1
        have HC2 := Lib.hid hc2
        have hd1 := HXW.out.cell_some hc1
        have hd2 := HXW.out.cell_some hc2
        clear hkk hc1 hc2
        go_wp2
        go_region_held3 (fun w' => w'.cell? ⟨b, o + k * 2, none⟩ = some (.int .i64 z1) ∧ w'.cell? ⟨b, o + k * 2 + 1, none⟩ = some (.int .i64 z2))
          (first | exact ⟨HXT.out.cell_some HC1.out, HXT.out.cell_some HC2.out⟩ | go_keep)
          ((refine step_apps elStep rfl (.tmp 37) (.tmp 48) rfl w1.heap.size (.slice (some ⟨w1.heap.size + 1, 0, none⟩) 2 2) 2 _ rfl (own_ext HOS.out ((Ext.refl wc).drew.alloc _)) (some ⟨wc.heap.size, 0, none⟩) 2 2 (sts [(2, (z1, z2), 0), (0, (z1, z2), 0)]) rfl (Row.fresh' wc.drew _ 4 #[.int .i64 2, .int .i64 z1, .int .i64 z2, .int .i64 0, .int .i64 0, .int .i64 z1, .int .i64 z2, .int .i64 0] 2 wc.heap.size rfl rfl hml2) hone hb4 hm4 (by simp; omega) ?_; intro A2 c2 w2 HO2 HG2 HL2; have HXT : Hid (Ext w1 w2) := (HXW.out.drew.alloc _).grown HG2.out (fun g hg => by simp [Value.ownBlock] at hg; omega)))
        go_wp2_with fail
        go_meet
        exact ⟨[(0, (key, tag), 0), (2, (key, tag), 0), (2, (z1, z2), 0), (0, (z1, z2), 0)], _, _, 4, rfl, by omega, rfl, Row.own HO2.out, HXT.out, undo4 xs (key, tag) (z1, z2) HZM.out⟩
      | false =>
        go_wp2
        go_meet
        exact ⟨[(0, (key, tag), 0), (2, (key, tag), 0)], _, _, 2, rfl, by omega, rfl, Row.own HOS.out, HXW.out, undo2 xs (key, tag)⟩
    case rest =>
      obtain ⟨T, C, q, m, rfl, hm4, HTL, HRT, HXT, HUO⟩ := hcut
      have HRX := Lib.hid (HR1.out.ext HXT.out)
      go_wp2_with fail
      refine (queueAll_ok _ _ _ _ _ _ xs T _ HRX.out HRT.out (by omega) (by omega)).mono ?_
      rintro e w3 ⟨B3, q3, rfl, hr3, hx3⟩
      have HR3 := Lib.hid hr3
      have HX3 := Lib.hid hx3
      clear hr3 hx3
      go_wp2_with fail
      refine (keptAll_ok _ _ _ _ _ _ xs T w3 (HRX.out.ext HX3.out) (HRT.out.ext HX3.out) (by omega) (by omega)).mono ?_
      rintro e w4 ⟨B4, q4, rfl, hr4, hx4⟩
      have hrk : Dones w4 B4 (m + 1) q4 (kall xs T) := hr4
      have HR4 := Lib.hid hrk
      have HR3' := Lib.hid (HR3.out.ext hx4)
      have HRX' := Lib.hid (HRX.out.ext (HX3.out.trans hx4))
      have HEX := Lib.hid (HX1.out.trans (HXT.out.trans (HX3.out.trans hx4)))
      have HAL := Lib.hid (all_like xs T)
      have HQS : Hid (RowsSmall (qall xs T)) := Lib.hid fun d hd => Nat.le_trans (qall_small (n := 1073741824) (m := 4) (by rw [HXL.out]; omega) (by rw [HTL.out]; exact hm4) d hd) (by omega)
      clear hr4 hx4 hrk
      have sw : IntKind.i64.wrap ((m : Int) + 1) = (m : Int) + 1 := IntWalk.i64_in _ (by omega)
      have sb : (((m : Int) + 1) != ((m : Int) + 1)) = false := by simp
      go_wp2_with fail
      go_loopg [16] (m + 2) (fun kx s wr => ∃ i : Nat, s = .int .i64 (i : Int) ∧ i % 2 = 0 ∧ i + kx = m + 2 ∧ Hid (Ext w4 wr))
      case atStart => exact ⟨0, rfl, rfl, by omega, Ext.refl _⟩
      case round =>
        obtain ⟨i, rfl, hi2, hik, HE⟩ := hrel
        by_cases him : i ≤ m
        · obtain ⟨b3, o3, is1, u1, u2, l1, C1, r1, rfl, hl1, -, -, -, a3, HA⟩ := (HR3'.out.ext HE.out).at_ (k := i) (by omega)
          obtain ⟨b4, o4, is4, u5, u6, l4, C4, r4, rfl, hl4, -, -, -, b3', HB⟩ := (HR4.out.ext HE.out).at_ (k := i) (by omega)
          obtain rfl : l4 = sortP xs := (HUO.out i _ hl4.out).1 hi2
          have HPM : Hid (sortP l1 = sortP xs) := by
            have h := (HAL.out i _ _ hl1.out hl4.out).2.2.1
            exact (sortP_of_perm h).trans (sortP_of_ord (sortP_ord xs))
          have hn1 : l1.length ≤ 1099511627776 := HQS.out _ (List.mem_of_getElem? hl1.out)
          have hn2 : n ≤ 1099511627776 := by omega
          clear hl1 hl4
          have d1 : decide ((i : Int) ≤ (m : Int)) = true := by simpa using him
          have i0 : (0 : Int) ≤ (i : Int) := by omega
          have i1 : (i : Int) < (m : Int) + 1 := by omega
          have i2 : i < m + 1 := by omega
          go_wp2
          go_region_held3 (fun w' => w'.cell? ⟨b3, o3 + i * 4 + 3, none⟩ = some (.slice C1 l1.length r1) ∧ w'.cell? ⟨b4, o4 + i * 4 + 3, none⟩ = some (.slice C4 (sortP xs).length r4))
            (first | (have hq : Ext wr w9 := ((((((Ext.refl wr).drew).trans hx5).trans hx6).trans hx7).trans hx8).trans hx9; exact ⟨hq.cell_some a3, hq.cell_some b3'⟩) | (have hq : Ext wr w8 := (((((Ext.refl wr).drew).trans hx5).trans hx6).trans hx7).trans hx8; exact ⟨hq.cell_some a3, hq.cell_some b3'⟩) | (have hq : Ext wr w7 := ((((Ext.refl wr).drew).trans hx5).trans hx6).trans hx7; exact ⟨hq.cell_some a3, hq.cell_some b3'⟩) | (have hq : Ext wr w6 := (((Ext.refl wr).drew).trans hx5).trans hx6; exact ⟨hq.cell_some a3, hq.cell_some b3'⟩) | (have hq : Ext wr w5 := ((Ext.refl wr).drew).trans hx5; exact ⟨hq.cell_some a3, hq.cell_some b3'⟩) | exact ⟨a3, b3'⟩)
            (first | (go_at_call 20; refine (sameItems_ok C4 D9 _ _ r4 p9 (sortP xs) (sortP xs) _ (HB.out.ext ((Ext.refl wr).drew.trans (hx5.trans (hx6.trans (hx7.trans hx8))))) hr8).mono ?_; rintro e w9 ⟨rfl, hx9⟩)
                   | (go_at_call 21; refine (sorted_ok _ n _ xs _ (HRX'.out.ext (HE.out.trans ((Ext.refl wr).drew.trans (hx5.trans (hx6.trans hx7))))) hn2).mono ?_; rintro e w8 ⟨D9, p9, rfl, hr8, hx8⟩)
                   | (go_at_call 20; refine (sameItems_ok D5 D6 _ _ p5 p6 (sortP xs) (sortP xs) _ (hr5.ext hx6) hr6).mono ?_; rintro e w7 ⟨rfl, hx7⟩)
                   | (go_at_call 21; refine (sorted_ok _ n _ xs _ (HRX'.out.ext (HE.out.trans ((Ext.refl wr).drew.trans hx5))) hn2).mono ?_; rintro e w6 ⟨D6, p6, rfl, hr6, hx6⟩)
                   | (go_at_call 21; refine (sorted_ok C1 l1.length r1 l1 _ (HA.out.ext (Ext.refl wr).drew) hn1).mono ?_; rw [HPM.out]; rintro e w5 ⟨D5, p5, rfl, hr5, hx5⟩))
          have HX9 : Hid (Ext w4 w9) := HE.out.trans ((Ext.refl wr).drew.trans (hx5.trans (hx6.trans (hx7.trans (hx8.trans hx9)))))
          clear hx5 hx6 hx7 hx8 hx9 hr5 hr6 hr8 d1
          go_wp2
          go_roundg (gk - 2)
          case measure => omega
          case rel => exact ⟨i + 2, by go_num, by omega, by omega, HX9.out⟩
        · have d1 : decide ((i : Int) ≤ (m : Int)) = false := by simpa using him
          have HE0 := HE
          obtain ⟨wz, rfl⟩ : ∃ wz : World, wz = wr := ⟨_, rfl⟩
          go_wp2
          go_loopg [17] m (fun kx s wr => ∃ i : Nat, s = .int .i64 (i : Int) ∧ 1 ≤ i ∧ i + kx = m + 1 ∧ Hid (Ext w4 wr))
          case atStart => exact ⟨1, rfl, by omega, by omega, HE0.out⟩
          case round =>
            obtain ⟨j, rfl, hj1, hjk, HE⟩ := hrel
            by_cases hjm : j ≤ m
            · obtain ⟨b3, o3, is1, u1, u2, l1, C1, r1, rfl, hl1, a3, -, -, -, -⟩ := (HR3'.out.ext HE.out).at_ (k := j) (by omega)
              obtain ⟨b4, o4, is4, u5, u6, l4, C4, r4, rfl, hl4, b3', -, -, -, -⟩ := (HR4.out.ext HE.out).at_ (k := j) (by omega)
              obtain rfl : is4 = true := (HUO.out j _ hl4.out).2 hj1
              obtain rfl : is1 = true := (HAL.out j _ _ hl1.out hl4.out).1
              clear hl1 hl4
              have d2 : decide ((j : Int) ≤ (m : Int)) = true := by simpa using hjm
              go_wp2
              go_roundg (gk - 1)
              case measure => omega
              case rel => exact ⟨j + 1, by go_num, by omega, by omega, HE.out⟩
            · have d2 : decide ((j : Int) ≤ (m : Int)) = false := by simpa using hjm
              go_wp2
              exact bodyPost_ret (v := .bool true) (by simp [results, Try.results11, go_sem]) rfl ⟨rfl, HEX.out.trans HE.out⟩
end Go.Proofs.Ytefeedpeiiaanaa
