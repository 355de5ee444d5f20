/- The walk of laws.FnEditsAhead: it returns true. The statement itself stands in the next file. -/
import Derived.Test.YtaimljagflnfpaaPlaced
namespace Go.Proofs.Ytaimljagflnfpaa
open Go.RowKit

set_option maxRecDepth 100000 in
set_option maxHeartbeats 1600000 in
theorem fnEditsAhead_ok (A0 A5 A1 A2 A3 A4 : Option Addr) (n0 n5 n1 n2 n3 n4 c0 c5 c1 c2 c3 c4 : Nat) (xs zs ops fr to_ : List Int) (vals : List (List Int)) (w : World) (h0 : Row w 1 A0 n0 c0 (ints xs)) (h5 : Row w 1 A5 n5 c5 (ints zs)) (h1 : Row w 1 A1 n1 c1 (ints ops)) (h2 : Row w 1 A2 n2 c2 (ints fr)) (h3 : Row w 1 A3 n3 c3 (ints to_)) (h4 : Lists w A4 n4 c4 vals)
    (hn0 : n0 ≤ 1048576) (hn5 : n5 ≤ 1048576) (hn1 : n1 ≤ 1048576) (hv : vals.flatten.length ≤ 1048576) :
    Calls Try.prog 6 #[.slice A0 n0 c0, .slice A5 n5 c5, .slice A1 n1 c1, .slice A2 n2 c2, .slice A3 n3 c3, .slice A4 n4 c4] w fun e w' => e = .returned (.bool true) ∧ Ext w w' := by
  have HP := Lib.hid (placed_walk A0 A1 A2 A3 A4 n0 n1 n2 n3 n4 c0 c1 c2 c3 c4 xs ops fr to_ vals n5 w h0 h1 h2 h3 h4 hn0 hn1 hv (by omega))
  have H0 := Lib.hid h0
  have H5 := Lib.hid h5
  have HXN := Lib.hid h0.ints_len
  have HZN := Lib.hid h5.ints_len
  have hl5 := h5.lim
  unfold maxLen at hl5
  clear h0 h5 h1 h2 h3 h4 hv
  go_enter Try.func6, Try.ntmps6
  go_wp2_with fail
  refine HP.out.mono ?_
  rintro e w1 ⟨C1, C2, C3, q1, q2, q3, O, M, l, rfl, k1, k2, k3, k4, k5, k6, k7, k8, k9⟩
  have HAL := Lib.hid k1
  have HDUE := Lib.hid k2.symm
  have HMV := Lib.hid k3
  have HO := Lib.hid k6
  have HM := Lib.hid k7
  have HL := Lib.hid k8
  have HW1 := Lib.hid k9
  have hev := (moved_evals k3).1
  have hml := (moved_evals k3).2
  have hll : l.length ≤ 2097152 := by
    have g := eend_length xs O
    rw [← k2, HXN.out] at g
    omega
  have HEVM : Hid (evals M ≤ 1048576) := Lib.hid (by omega)
  have HEVO := Lib.hid k4
  have hol : O.length ≤ 1048576 := by omega
  have hmol : M.length ≤ 1048576 := by omega
  clear k1 k2 k3 k4 k5 k6 k7 k8 k9 hev hml
  go_wp2_with fail
  refine (last_ok A0 C1 n0 O.length c0 q1 xs O w1 (H0.out.ext HW1.out) HO.out (by have := HEVO.out; omega) (by omega)).mono ?_
  rintro e w2 ⟨C4, q4, rfl, k1, k2⟩
  rw [HDUE.out] at k1 ⊢
  have HR4 := Lib.hid k1
  have HW2 := Lib.hid (HW1.out.trans k2)
  have HS2 := Lib.hid (Recs.ext HM.out k2)
  have HL2 := Lib.hid (HL.out.ext k2)
  clear k1 k2
  go_wp2_with fail
  refine (joined_two_own A5 A0 n5 n0 c5 c0 zs xs (zs ++ xs) (n0 + n5) w2 _ rfl (H5.out.ext HW2.out) (H0.out.ext HW2.out) rfl (by rw [List.length_append, HXN.out, HZN.out]; omega) (by omega)).mono ?_
  rintro e w3 ⟨C5, q5, rfl, k1, k2⟩
  have HR5 := Lib.hid (Row.own k1)
  have HW3 := Lib.hid (HW2.out.trans k2)
  have HS3 := Lib.hid (Recs.ext HS2.out k2)
  have HL3 := Lib.hid (HL2.out.ext k2)
  have HR43 := Lib.hid (HR4.out.ext k2)
  clear k1 k2
  have HPL : Hid (eend (zs ++ xs) M = zs ++ l) := Lib.hid (by rw [ahead_plain xs zs O M HAL.out (by rw [HZN.out]; exact HMV.out), HDUE.out])
  obtain ⟨N, hN⟩ : ∃ N, N = (zs ++ l).length := ⟨_, rfl⟩
  have hNl : N ≤ 4194304 := by rw [hN, List.length_append, HZN.out]; omega
  have HN := Lib.hid hN.symm
  clear hN
  go_wp2_with fail
  refine (last_ok C5 C2 (n0 + n5) M.length q5 q2 (zs ++ xs) M w3 HR5.out HS3.out (by have := HEVM.out; omega) (by omega)).mono ?_
  rintro e w4 ⟨C6, q6, rfl, k1, k2⟩
  rw [HPL.out, HN.out] at k1 ⊢
  have HR6 := Lib.hid k1
  have HW4 := Lib.hid (HW3.out.trans k2)
  have HL4 := Lib.hid (HL3.out.ext k2)
  have HR44 := Lib.hid (HR43.out.ext k2)
  clear k1 k2
  go_wp2_with fail
  refine (same_true C4 C3 l.length l.length q4 q3 l w4 HR44.out HL4.out).mono ?_
  rintro e w5 ⟨rfl, k1⟩
  have HW5 := Lib.hid (HW4.out.trans k1)
  have HL5 := Lib.hid (HL4.out.ext k1)
  have HR65 := Lib.hid (HR6.out.ext k1)
  clear k1
  go_wp2_with fail
  refine (joined_two_own A5 C3 n5 l.length c5 q3 zs l (zs ++ l) N w5 _ rfl (H5.out.ext HW5.out) HL5.out rfl HN.out (by omega)).mono ?_
  rintro e w6 ⟨C7, q7, rfl, k1, k2⟩
  have HR7 := Lib.hid (Row.own k1)
  have HW6 := Lib.hid (HW5.out.trans k2)
  have HR66 := Lib.hid (HR65.out.ext k2)
  clear k1 k2
  go_wp2_with fail
  refine (same_true C6 C7 N N q6 q7 (zs ++ l) w6 HR66.out HR7.out).mono ?_
  rintro e w7 ⟨rfl, k1⟩
  have HW7 := Lib.hid (HW6.out.trans k1)
  clear k1
  go_wp2
  go_ret
  exact ⟨rfl, HW7.out⟩
end Go.Proofs.Ytaimljagflnfpaa
