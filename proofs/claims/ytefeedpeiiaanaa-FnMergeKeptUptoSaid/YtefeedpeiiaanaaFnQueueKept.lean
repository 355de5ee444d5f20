/- The walk of laws.FnQueueKept. No statement of the seat is proved here. -/
import Derived.Test.YtefeedpeiiaanaaAlike
import Derived.Test.YtefeedpeiiaanaaQueueAll
namespace Go.Proofs.Ytefeedpeiiaanaa
open Go.RowKit

theorem dlike_rows {D E : List DEnt} (h : ∀ (i : Nat) (d e : DEnt), D[i]? = some d → E[i]? = some e → DLike d e) : RowsLike D E := fun i d e hd he => by
  obtain ⟨h1, h2, h3, _⟩ := h i d e hd he
  exact ⟨h1, h2, sortP_of_perm h3⟩
theorem krows_small {S : List (Int × Int)} (T : List Stp) : ∀ d ∈ krows S T, d.2.2.length ≤ S.length + T.length := by
  induction T generalizing S with
  | nil => simp [krows]
  | cons s T ih =>
    intro d hd
    have h1 := kstep_len S s
    simp only [krows, List.mem_cons] at hd
    simp only [List.length_cons]
    rcases hd with rfl | hd
    · simp only; omega
    · have := ih d hd; omega
theorem qrows_small {S : List (Int × Int)} (T : List Stp) : ∀ d ∈ qrows S T, d.2.2.length ≤ S.length + T.length := by
  induction T generalizing S with
  | nil => simp [qrows]
  | cons s T ih =>
    intro d hd
    have h1 := qstep_len S s
    simp only [qrows, List.mem_cons] at hd
    simp only [List.length_cons]
    rcases hd with rfl | hd
    · simp only; omega
    · have := ih d hd; omega
theorem kall_small {xs : List (Int × Int)} {T : List Stp} {n m : Nat} (h1 : xs.length ≤ n) (h2 : T.length ≤ m) : ∀ d ∈ kall xs T, d.2.2.length ≤ n + m := by
  intro d hd
  rcases List.mem_cons.1 hd with rfl | hd
  · simp only [sortP_length]; omega
  · have := krows_small T d hd; rw [sortP_length] at this; omega
theorem qall_small {xs : List (Int × Int)} {T : List Stp} {n m : Nat} (h1 : xs.length ≤ n) (h2 : T.length ≤ m) : ∀ d ∈ qall xs T, d.2.2.length ≤ n + m := by
  intro d hd
  rcases List.mem_cons.1 hd with rfl | hd
  · simp only [initL_length]; omega
  · have := qrows_small T d hd; rw [initL_length] at this; omega

set_option maxRecDepth 100000 in
set_option maxHeartbeats 1600000 in
theorem fnQueueKept_ok (A0 A1 A2 A3 A4 A5 : Option Addr) (n0 n1 n2 n3 n4 n5 c0 c1 c2 c3 c4 c5 : Nat) (x0 x1 x2 x3 x4 x5 : List Int) (w : World) (h0 : Row w 1 A0 n0 c0 (ints x0)) (h1 : Row w 1 A1 n1 c1 (ints x1)) (h2 : Row w 1 A2 n2 c2 (ints x2)) (h3 : Row w 1 A3 n3 c3 (ints x3)) (h4 : Row w 1 A4 n4 c4 (ints x4)) (h5 : Row w 1 A5 n5 c5 (ints x5)) (hs : n0 ≤ 1073741824) (hs2 : n2 ≤ 1073741824) :
    Calls Try.prog 6 #[.slice A0 n0 c0, .slice A1 n1 c1, .slice A2 n2 c2, .slice A3 n3 c3, .slice A4 n4 c4, .slice A5 n5 c5] w fun e w' => e = .returned (.bool true) ∧ Ext w w' := by
  have HI := Lib.hid (items_ok A0 A1 n0 n1 c0 c1 x0 x1 w h0 h1 (by omega))
  have H2 := Lib.hid h2
  have H3 := Lib.hid h3
  have H4 := Lib.hid h4
  have H5 := Lib.hid h5
  have hxl : (x0.zip x1).length ≤ 1073741824 := by rw [List.length_zip, h0.ints_len]; omega
  have hzl := zip4_length x2 x3 x4 x5
  rw [h2.ints_len] at hzl
  have hTl : (zip4 x2 x3 x4 x5).length ≤ 1073741824 := by omega
  clear hzl h0 h1 h2 h3 h4 h5
  go_enter Try.func6, Try.ntmps6
  go_wp2_with fail
  refine HI.out.mono ?_
  rintro e w1 ⟨B1, q1, rfl, hr1, hx1⟩
  have HR1 := Lib.hid hr1
  have HX1 := Lib.hid hx1
  clear hr1 hx1
  have hst := steps_ok A2 A3 A4 A5 n2 n3 n4 n5 c2 c3 c4 c5 x2 x3 x4 x5 w1 (H2.out.ext HX1.out) (H3.out.ext HX1.out) (H4.out.ext HX1.out) (H5.out.ext HX1.out) (by omega)
  generalize zip4 x2 x3 x4 x5 = T at hst hTl
  generalize x0.zip x1 = xs at HR1 hxl
  have HST := Lib.hid hst
  clear hst
  go_wp2_with fail
  refine HST.out.mono ?_
  rintro e w2 ⟨B2, q2, rfl, hr2, hx2⟩
  have HR2 := Lib.hid hr2
  have HX2 := Lib.hid (HX1.out.trans hx2)
  have HR1' := Lib.hid (HR1.out.ext hx2)
  clear hr2 hx2
  go_wp2_with fail
  refine (queueAll_ok B1 B2 _ _ q1 q2 xs T w2 HR1'.out HR2.out (by omega) (by omega)).mono ?_
  rintro e w3 ⟨B3, q3, rfl, hr3, hx3⟩
  have HR3 := Lib.hid hr3
  have HX3 := Lib.hid hx3
  clear hr3 hx3
  go_wp2_with fail
  refine (keptAll_ok B1 B2 _ _ q1 q2 xs T w3 (HR1'.out.ext HX3.out) (HR2.out.ext HX3.out) (by omega) (by omega)).mono ?_
  rintro e w4 ⟨B4, q4, rfl, hr4, hx4⟩
  have HR4 := Lib.hid hr4
  have HX4 := Lib.hid hx4
  clear hr4 hx4
  have sb : (((T.length : Int) + 1) == ((T.length : Int) + 1)) = true := by simp
  go_wp2_with fail
  refine (alike_ok B3 B4 (T.length + 1) q3 q4 (qall xs T) (kall xs T) w4 (HR3.out.ext HX4.out) HR4.out (dlike_rows (all_like xs T)) (fun d hd => Nat.le_trans (qall_small hxl hTl d hd) (by omega)) (fun d hd => Nat.le_trans (kall_small hxl hTl d hd) (by omega))).mono ?_
  rintro e w5 ⟨rfl, hx5⟩
  have HX5 := Lib.hid hx5
  clear hx5
  go_wp2
  go_ret
  exact ⟨rfl, HX2.out.trans (HX3.out.trans (HX4.out.trans HX5.out))⟩
end Go.Proofs.Ytefeedpeiiaanaa
