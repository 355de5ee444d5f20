/- The walk of laws.FnKeptSorted. No statement of the seat is proved here. -/
import Derived.Test.YtefeedpeiiaanaaSameItems
import Derived.Test.YtefeedpeiiaanaaSortedIts
namespace Go.Proofs.Ytefeedpeiiaanaa
open Go.RowKit

theorem krows_ord {S : List (Int × Int)} (h : Ord S) (T : List Stp) : ∀ d ∈ krows S T, Ord d.2.2 := by
  induction T generalizing S with
  | nil => simp [krows]
  | cons s T ih =>
    intro d hd
    simp only [krows, List.mem_cons] at hd
    rcases hd with rfl | hd
    · exact kstep_ord h s
    · exact ih (kstep_ord h s) d hd
theorem krows_lim {S : List (Int × Int)} (T : List Stp) : ∀ d ∈ krows S T, d.2.2.length ≤ S.length + T.length := by
  induction T generalizing S with
  | nil => simp [krows]
  | cons s T ih =>
    intro d hd
    have h1 := kstep_len S s
    simp only [krows, List.mem_cons] at hd
    simp only [List.length_cons]
    rcases hd with rfl | hd
    · simp only; omega
    · have := ih d hd; omega

set_option maxRecDepth 100000 in
set_option maxHeartbeats 1600000 in
theorem fnKeptSorted_ok (A0 A1 A2 A3 A4 A5 : Option Addr) (n0 n1 n2 n3 n4 n5 c0 c1 c2 c3 c4 c5 : Nat) (x0 x1 x2 x3 x4 x5 : List Int) (w : World) (h0 : Row w 1 A0 n0 c0 (ints x0)) (h1 : Row w 1 A1 n1 c1 (ints x1)) (h2 : Row w 1 A2 n2 c2 (ints x2)) (h3 : Row w 1 A3 n3 c3 (ints x3)) (h4 : Row w 1 A4 n4 c4 (ints x4)) (h5 : Row w 1 A5 n5 c5 (ints x5)) (hs : n0 ≤ 1073741824) (hs2 : n2 ≤ 1073741824) :
    Calls Try.prog 8 #[.slice A0 n0 c0, .slice A1 n1 c1, .slice A2 n2 c2, .slice A3 n3 c3, .slice A4 n4 c4, .slice A5 n5 c5] w fun e w' => e = .returned (.bool true) ∧ Ext w w' := by
  have H0 := Lib.hid h0
  have H1 := Lib.hid h1
  have hst := steps_ok A2 A3 A4 A5 n2 n3 n4 n5 c2 c3 c4 c5 x2 x3 x4 x5 w h2 h3 h4 h5 (by omega)
  have hzl := zip4_length x2 x3 x4 x5
  rw [h2.ints_len] at hzl
  obtain ⟨T, hT⟩ : ∃ T, T = zip4 x2 x3 x4 x5 := ⟨_, rfl⟩
  rw [← hT] at hst hzl
  have hTl : T.length ≤ 1073741824 := by omega
  have HST := Lib.hid hst
  clear hst hzl hT h0 h1 h2 h3 h4 h5
  go_enter Try.func8, Try.ntmps8
  go_wp2_with fail
  refine HST.out.mono ?_
  rintro e w1 ⟨B1, q1, rfl, hr1, hx1⟩
  have HR1 := Lib.hid hr1
  have HX1 := Lib.hid hx1
  clear hr1 hx1
  go_wp2_with fail
  refine (items_ok A0 A1 n0 n1 c0 c1 x0 x1 w1 (H0.out.ext HX1.out) (H1.out.ext HX1.out) (by omega)).mono ?_
  rintro e w2 ⟨B2, q2, rfl, hr2, hx2⟩
  have HR2 := Lib.hid hr2
  have HX2 := Lib.hid hx2
  clear hr2 hx2
  go_wp2_with fail
  refine (keptAll_ok B2 B1 _ _ q2 q1 (x0.zip x1) T w2 HR2.out (HR1.out.ext HX2.out) (by omega) (by omega)).mono ?_
  rintro e w3 ⟨B3, q3, rfl, hd3, hx3⟩
  obtain ⟨b, o, is, y1, y2, l, B, q, rfl, hl, -, -, -, hc, HB⟩ := hd3.at_ (k := 0) (by omega)
  obtain rfl : l = sortP (x0.zip x1) := by have := hl.out; simp at this; exact this.2.2.symm
  clear hl
  have HD3 := Lib.hid hd3
  have HE3 := Lib.hid ((HX1.out.trans HX2.out).trans hx3)
  clear hd3 hx3
  have hnn : min n0 n1 ≤ 1099511627776 := by omega
  have sw : IntKind.i64.wrap ((T.length : Int) + 1) = (T.length : Int) + 1 := IntWalk.i64_in _ (by omega)
  have sb : (((T.length : Int) + 1) != ((T.length : Int) + 1)) = false := by simp
  go_wp2_with fail
  go_region_held3 (fun w' => w'.cell? ⟨b, o + 3, none⟩ = some (.slice B (sortP (x0.zip x1)).length q))
    (first | go_keep | exact hx6.cell_some (by assumption) | exact hx5.cell_some (by assumption) | exact hx4.cell_some (by assumption))
    (first | (go_at_call 14; refine (items_ok A0 A1 n0 n1 c0 c1 x0 x1 _ (H0.out.ext HE3.out.drew) (H1.out.ext HE3.out.drew) (by omega)).mono ?_; rintro e w4 ⟨B4, q4, rfl, hr4, hx4⟩)
           | (go_at_call 21; refine (sorted_ok B4 (min n0 n1) q4 (x0.zip x1) _ hr4 hnn).mono ?_; rintro e w5 ⟨B5, q5, rfl, hr5, hx5⟩)
           | (go_at_call 20; refine (sameItems_ok B B5 _ (min n0 n1) q q5 (sortP (x0.zip x1)) (sortP (x0.zip x1)) _ (HB.out.ext ((Ext.refl w3).drew.trans (hx4.trans hx5))) hr5).mono ?_; rintro e w6 ⟨rfl, hx6⟩))
  have HE6 : Hid (Ext w3 w6) := (Ext.refl w3).drew.trans (hx4.trans (hx5.trans hx6))
  have HZL : Hid ((x0.zip x1).length = min n0 n1) := by have := HR2.out.its_len; exact this
  clear hr4 hr5 hx4 hx5 hx6
  go_wp2
  go_loopg [47] (T.length + 1) (fun kx i wr => ∃ k : Nat, k + kx = T.length + 1 ∧ i = .int .i64 (k : Int) ∧ Hid (Ext w3 wr))
  case atStart => exact ⟨0, by omega, rfl, HE6.out⟩
  case round =>
    obtain ⟨k, hk, rfl, HE⟩ := hrel
    by_cases hlt : k < T.length + 1
    · obtain ⟨b', o', is', z1, z2, l, B7, q7, hbo, hl, hd0, hd1, hd2, hd3, HB7⟩ := (HD3.out.ext HE.out).at_ (k := k) hlt
      obtain ⟨rfl, rfl⟩ : b' = b ∧ o' = o := by simp at hbo; exact ⟨hbo.1.symm, hbo.2.symm⟩
      clear hbo
      have hmem := List.mem_of_getElem? hl.out
      have HOR : Hid (sortP l = l) := by
        rw [List.mem_cons] at hmem
        rcases hmem with e | e
        · injection e with _ e; injection e with _ e; rw [e]; exact sortP_of_ord (sortP_ord _)
        · exact sortP_of_ord (krows_ord (sortP_ord _) T _ e)
      have hll : l.length ≤ 1099511627776 := by
        have hz := HZL.out
        rw [List.mem_cons] at hmem
        rcases hmem with e | e
        · injection e with _ e; injection e with _ e; rw [e, sortP_length]; omega
        · have := krows_lim T _ e; rw [sortP_length] at this; simp only at this; omega
      clear hmem
      go_wp2
      go_region_held3 (fun w' => w'.cell? ⟨wr.heap.size, 3, none⟩ = some (.slice B7 l.length q7))
        (first | go_keep | exact hx9.cell_some (by assumption) | exact hx8.cell_some (by assumption) | exact hx8.cell_some (by go_simp))
        (first | (go_at_call 21; refine (sorted_ok B7 l.length q7 l _ (HB7.out.ext ((Ext.refl wr).alloc _).drew) hll).mono ?_; rintro e w8 ⟨B8, q8, rfl, hr8, hx8⟩; rw [HOR.out] at hr8)
               | (go_at_call 20; refine (sameItems_ok B7 B8 l.length l.length q7 q8 l l _ (HB7.out.ext (((Ext.refl wr).alloc _).drew.trans hx8)) hr8).mono ?_; rintro e w9 ⟨rfl, hx9⟩))
      have HX9 : Hid (Ext w3 w9) := HE.out.trans (((Ext.refl wr).alloc _).drew.trans (hx8.trans hx9))
      clear hr8 hx8 hx9
      go_wp2
      go_roundg (gk - 1)
      case measure => omega
      case rel => exact ⟨k + 1, by omega, by go_num, HX9.out⟩
    · obtain rfl : k = T.length + 1 := by omega
      go_wp2
      exact bodyPost_ret (v := .bool true) (by simp [results, Try.results8, go_sem]) rfl ⟨rfl, HE3.out.trans HE.out⟩
end Go.Proofs.Ytefeedpeiiaanaa
