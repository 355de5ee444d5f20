/- The walk of laws.FnFixUndo. No statement of the seat is proved here. -/
import Derived.Test.YtefeedpeiiaanaaFnQueueKept
namespace Go.Proofs.Ytefeedpeiiaanaa
open Go.RowKit

theorem insP_erase {S : List (Int × Int)} {x : Int × Int} (ho : Ord S) (hx : x ∈ S) : insP x (S.erase x) = S :=
  insP_of_ord (List.Pairwise.sublist List.erase_sublist ho) ho (List.perm_cons_erase hx)
theorem erase_insP {S : List (Int × Int)} {x : Int × Int} (ho : Ord S) : (insP x S).erase x = S := by
  refine ord_perm_eq (List.Pairwise.sublist List.erase_sublist (insP_ord ho)) ho ?_
  have h1 := List.perm_cons_erase (a := x) (l := insP x S) ((insP_perm x S).mem_iff.2 (by simp))
  exact List.Perm.cons_inv (h1.symm.trans (insP_perm x S))
theorem mem_insP (x : Int × Int) (S : List (Int × Int)) : x ∈ insP x S := (insP_perm x S).mem_iff.2 (by simp)
theorem kstep_fix_in {S : List (Int × Int)} {x1 x2 y : Int} (h : (x1, x2) ∈ S) : kstep S (3, (x1, x2), y) = (insP (y, x2) (S.erase (x1, x2)), (y, x2), true) := by
  unfold kstep
  rw [if_neg (by simp), if_neg (by simp), if_neg (by simp), if_pos rfl, if_pos h]
theorem fix_rows {xs : List (Int × Int)} {x1 x2 y : Int} (h : (x1, x2) ∈ xs) :
    kall xs [(3, (x1, x2), y), (3, (y, x2), x1)] = [(false, (0, 0), sortP xs), (true, (y, x2), insP (y, x2) ((sortP xs).erase (x1, x2))), (true, (x1, x2), sortP xs)] := by
  have hm : (x1, x2) ∈ sortP xs := (sortP_perm xs).mem_iff.2 h
  have ho := sortP_ord xs
  have h2 := mem_insP (y, x2) ((sortP xs).erase (x1, x2))
  unfold kall
  simp only [krows, kstep_fix_in hm, kstep_fix_in h2]
  rw [erase_insP (List.Pairwise.sublist List.erase_sublist ho), insP_erase ho hm]

set_option maxRecDepth 100000 in
set_option maxHeartbeats 3200000 in
theorem fnFixUndo_ok (A0 A1 : Option Addr) (n0 n1 c0 c1 : Nat) (x0 x1 : List Int) (k key : Int) (w : World) (h0 : Row w 1 A0 n0 c0 (ints x0)) (h1 : Row w 1 A1 n1 c1 (ints x1)) (hs : n0 ≤ 1073741824) :
    Calls Try.prog 10 #[.slice A0 n0 c0, .slice A1 n1 c1, .int .i64 k, .int .i64 key] w fun e w' => e = .returned (.bool true) ∧ Ext w w' := by
  have HI := Lib.hid (items_ok A0 A1 n0 n1 c0 c1 x0 x1 w h0 h1 (by omega))
  clear h0 h1
  have hk : min n0 n1 ≤ 1073741824 := by omega
  generalize min n0 n1 = n at HI hk
  go_enter Try.func10, Try.ntmps10
  go_wp2_with fail
  refine HI.out.mono ?_
  rintro e w1 ⟨B1, q1, rfl, hr1, hx1⟩
  generalize x0.zip x1 = xs at hr1
  have hxl : xs.length = n := hr1.its_len
  have HXL := Lib.hid hxl
  have HR1 := Lib.hid hr1
  have HX1 := Lib.hid hx1
  clear hr1 hx1 hxl
  by_cases hk0 : k < 0
  · have hd : decide (k < 0) = true := by simpa using hk0
    go_wp2
    go_ret
    exact ⟨rfl, HX1.out⟩
  have hd : decide (k < 0) = false := by simpa using hk0
  obtain ⟨k, rfl⟩ := Int.eq_ofNat_of_zero_le (by omega : 0 ≤ k)
  by_cases hkn : n ≤ k
  · have hd2 : decide ((k : Int) ≥ (n : Int)) = true := by simp; omega
    go_wp2
    go_ret
    exact ⟨rfl, HX1.out⟩
  have hd2 : decide ((k : Int) ≥ (n : Int)) = false := by simp; omega
  obtain ⟨b, o, z1, z2, rfl, hzk, hc1, hc2⟩ := HR1.out.item_at (k := k) (by omega)
  have hkl : k < n := by omega
  have HZM : Hid ((z1, z2) ∈ xs) := List.mem_of_getElem? hzk.out
  have hml2 : 2 ≤ maxLen := by unfold maxLen; omega
  go_wp2_with fail
  obtain ⟨W, hW⟩ : ∃ W, W = ((w1.alloc (.cells #[.int .i64 z1, .int .i64 z2] 28)).alloc (.cells #[.int .i64 key, .int .i64 z2] 28)) := ⟨_, rfl⟩
  rw [← hW]
  have p0 : W.cell? ⟨w1.heap.size, 0, none⟩ = some (.int .i64 z1) := by rw [hW]; go_simp
  have p1 : W.cell? ⟨w1.heap.size, 1, none⟩ = some (.int .i64 z2) := by rw [hW]; go_simp
  have p2 : W.cell? ⟨w1.heap.size + 1, 0, none⟩ = some (.int .i64 key) := by rw [hW]; go_simp
  have p3 : W.cell? ⟨w1.heap.size + 1, 1, none⟩ = some (.int .i64 z2) := by rw [hW]; go_simp
  have hsz : W.heap.size = w1.heap.size + 2 := by rw [hW]; go_simp
  have HXW : Hid (Ext w1 W) := by unfold Hid; rw [hW]; exact ((Ext.refl w1).alloc _).alloc _
  clear hW hc1 hc2 hzk
  have HRS : Hid (Row (W.alloc (.cells #[.int .i64 3, .int .i64 z1, .int .i64 z2, .int .i64 key, .int .i64 3, .int .i64 key, .int .i64 z2, .int .i64 z1] 30)) 4 (some ⟨w1.heap.size + 2, 0, none⟩) 2 2 (sts [(3, (z1, z2), key), (3, (key, z2), z1)])) :=
    Lib.hid (Row.fresh' W _ 4 #[.int .i64 3, .int .i64 z1, .int .i64 z2, .int .i64 key, .int .i64 3, .int .i64 key, .int .i64 z2, .int .i64 z1] 2 _ hsz rfl hml2)
  obtain ⟨W2, hW2⟩ : ∃ W2, W2 = W.alloc (.cells #[.int .i64 3, .int .i64 z1, .int .i64 z2, .int .i64 key, .int .i64 3, .int .i64 key, .int .i64 z2, .int .i64 z1] 30) := ⟨_, rfl⟩
  rw [← hW2] at HRS ⊢
  have HX2 : Hid (Ext W W2) := by unfold Hid; rw [hW2]; exact (Ext.refl W).alloc _
  clear hW2 hsz
  refine (queueAll_ok _ _ _ _ _ _ xs _ W2 (HR1.out.ext (HXW.out.trans HX2.out)) HRS.out (by omega) (by omega)).mono ?_
  rintro e w3 ⟨B3, q3, rfl, hr3, hx3⟩
  have HR3 := Lib.hid hr3
  have HX3 := Lib.hid hx3
  clear hr3 hx3
  go_wp2_with fail
  refine (keptAll_ok _ _ _ _ _ _ xs _ w3 (HR1.out.ext (HXW.out.trans (HX2.out.trans HX3.out))) (HRS.out.ext HX3.out) (by omega) (by omega)).mono ?_
  rintro e w4 ⟨B4, q4, rfl, hr4, hx4⟩
  have hrk : Dones w4 B4 (2 + 1) q4 (kall xs [(3, (z1, z2), key), (3, (key, z2), z1)]) := hr4
  have HR4 := Lib.hid hrk
  have HX4 := Lib.hid (HX2.out.trans (HX3.out.trans hx4))
  have HR3' := Lib.hid (HR3.out.ext hx4)
  have HEX := Lib.hid (HX1.out.trans (HXW.out.trans HX4.out))
  clear hr4 hx4 hrk
  have HFX := Lib.hid (fix_rows (y := key) HZM.out)
  have HAL := Lib.hid (all_like xs [(3, (z1, z2), key), (3, (key, z2), z1)])
  obtain ⟨b3, o3, is1, u1, u2, l1, C1, r1, rfl, hl1, a0, a1, a2, -, -⟩ := HR3'.out.at_ (k := 1) (by omega)
  obtain ⟨b3', o3', is2, u3, u4, l2, C2, r2, hbo, hl2, a3, a4, a5, -, -⟩ := HR3'.out.at_ (k := 2) (by omega)
  injection hbo with hbo
  injection hbo with hbo1 hbo2
  subst hbo1 hbo2
  obtain ⟨b4, o4, is4, u5, u6, l4, C4, r4, rfl, hl4, -, -, -, b0, HB4⟩ := HR4.out.at_ (k := 2) (by omega)
  obtain ⟨rfl, e2, -⟩ : is1 = true ∧ (u1, u2) = (key, z2) ∧ True := by
    have h := HAL.out 1 _ (true, (key, z2), insP (key, z2) ((sortP xs).erase (z1, z2))) hl1.out (by rw [HFX.out]; rfl)
    exact ⟨h.1, h.2.1, trivial⟩
  injection e2 with e21 e22
  subst e21 e22
  obtain ⟨rfl, e2, -⟩ : is2 = true ∧ (u3, u4) = (z1, u2) ∧ True := by
    have h := HAL.out 2 _ (true, (z1, u2), sortP xs) hl2.out (by rw [HFX.out]; rfl)
    exact ⟨h.1, h.2.1, trivial⟩
  injection e2 with e21 e22
  subst e21 e22
  obtain rfl : l4 = sortP xs := by
    have h := hl4.out
    rw [HFX.out] at h
    simp at h
    exact h.2.2.symm
  have HLK := Lib.hid (dlike_rows HAL.out)
  have HQS : Hid (RowsSmall (qall xs [(3, (u3, u4), u1), (3, (u1, u4), u3)])) := Lib.hid fun d hd => Nat.le_trans (qall_small (n := 1073741824) (m := 2) (by rw [HXL.out]; omega) (by simp) d hd) (by omega)
  have HKS : Hid (RowsSmall (kall xs [(3, (u3, u4), u1), (3, (u1, u4), u3)])) := Lib.hid fun d hd => Nat.le_trans (kall_small (n := 1073741824) (m := 2) (by rw [HXL.out]; omega) (by simp) d hd) (by omega)
  have m0 : w4.cell? ⟨b3, o3 + 4, none⟩ = some (.bool true) := a0
  have m1 : w4.cell? ⟨b3, o3 + 4 + 1, none⟩ = some (.int .i64 u1) := a1
  have m2 : w4.cell? ⟨b3, o3 + 4 + 1 + 1, none⟩ = some (.int .i64 u4) := a2
  have m3 : w4.cell? ⟨b3, o3 + 8, none⟩ = some (.bool true) := a3
  have m4 : w4.cell? ⟨b3, o3 + 8 + 1, none⟩ = some (.int .i64 u3) := a4
  have m5 : w4.cell? ⟨b3, o3 + 8 + 1 + 1, none⟩ = some (.int .i64 u4) := a5
  have m6 : w4.cell? ⟨b4, o4 + 8 + 3, none⟩ = some (.slice C4 (sortP xs).length r4) := b0
  have HSL : Hid ((sortP xs).length = n) := by unfold Hid; rw [sortP_length]; exact HXL.out
  rw [HSL.out] at m6
  have HB4' : Hid (Row w4 2 C4 n r4 (its (sortP xs))) := by have := HB4.out; rw [HSL.out] at this; exact this
  have v0 := HX4.out.cell_some p0
  have v1 := HX4.out.cell_some p1
  have v2 := HX4.out.cell_some p2
  have v3 := HX4.out.cell_some p3
  have HRX := Lib.hid (HR1.out.ext (HXW.out.trans HX4.out))
  clear a0 a1 a2 a3 a4 a5 b0 p0 p1 p2 p3 hl1 hl2 hl4 HB4
  go_wp2_with fail
  go_region_held3 (fun w' => w'.cell? ⟨b3, o3 + 4, none⟩ = some (.bool true) ∧ w'.cell? ⟨b3, o3 + 4 + 1, none⟩ = some (.int .i64 u1) ∧ w'.cell? ⟨b3, o3 + 4 + 1 + 1, none⟩ = some (.int .i64 u4) ∧ w'.cell? ⟨b3, o3 + 8, none⟩ = some (.bool true) ∧ w'.cell? ⟨b3, o3 + 8 + 1, none⟩ = some (.int .i64 u3) ∧ w'.cell? ⟨b3, o3 + 8 + 1 + 1, none⟩ = some (.int .i64 u4) ∧ w'.cell? ⟨b4, o4 + 8 + 3, none⟩ = some (.slice C4 n r4) ∧ w'.cell? ⟨w1.heap.size, 0, none⟩ = some (.int .i64 u3) ∧ w'.cell? ⟨w1.heap.size, 1, none⟩ = some (.int .i64 u4) ∧ w'.cell? ⟨w1.heap.size + 1, 0, none⟩ = some (.int .i64 u1) ∧ w'.cell? ⟨w1.heap.size + 1, 1, none⟩ = some (.int .i64 u4))
    (first | (have hq : Ext w4 w7 := ((((Ext.refl w4).drew).trans hx5).trans hx6).trans hx7; exact ⟨hq.cell_some m0, hq.cell_some m1, hq.cell_some m2, hq.cell_some m3, hq.cell_some m4, hq.cell_some m5, hq.cell_some m6, hq.cell_some v0, hq.cell_some v1, hq.cell_some v2, hq.cell_some v3⟩) | (have hq : Ext w4 w6 := (((Ext.refl w4).drew).trans hx5).trans hx6; exact ⟨hq.cell_some m0, hq.cell_some m1, hq.cell_some m2, hq.cell_some m3, hq.cell_some m4, hq.cell_some m5, hq.cell_some m6, hq.cell_some v0, hq.cell_some v1, hq.cell_some v2, hq.cell_some v3⟩) | (have hq : Ext w4 w5 := ((Ext.refl w4).drew).trans hx5; exact ⟨hq.cell_some m0, hq.cell_some m1, hq.cell_some m2, hq.cell_some m3, hq.cell_some m4, hq.cell_some m5, hq.cell_some m6, hq.cell_some v0, hq.cell_some v1, hq.cell_some v2, hq.cell_some v3⟩) | exact ⟨m0, m1, m2, m3, m4, m5, m6, v0, v1, v2, v3⟩)
    (first | (go_at_call 19; refine (alike_ok _ _ _ _ _ _ _ _ (HR3'.out.ext (Ext.refl w4).drew) (HR4.out.ext (Ext.refl w4).drew) HLK.out HQS.out HKS.out).mono ?_; rintro e w5 ⟨rfl, hx5⟩)
           | (go_at_call 21; refine (sorted_ok _ _ _ xs _ (HRX.out.ext ((Ext.refl w4).drew.trans hx5)) (by omega)).mono ?_; rintro e w6 ⟨C6, r6, rfl, hr6, hx6⟩)
           | (go_at_call 20; refine (sameItems_ok C4 C6 n n r4 r6 (sortP xs) (sortP xs) _ (HB4'.out.ext ((Ext.refl w4).drew.trans (hx5.trans hx6))) hr6).mono ?_; rintro e w7 ⟨rfl, hx7⟩))
  have HX7 : Hid (Ext w w7) := HEX.out.trans ((Ext.refl w4).drew.trans (hx5.trans (hx6.trans hx7)))
  clear hx5 hx6 hx7 hr6
  go_wp2
  go_ret
  exact ⟨rfl, HX7.out⟩
end Go.Proofs.Ytefeedpeiiaanaa
