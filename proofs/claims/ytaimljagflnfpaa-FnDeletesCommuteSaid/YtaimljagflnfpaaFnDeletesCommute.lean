/- The walk of laws.FnDeletesCommute: it returns true. The statement itself stands in the next file. -/
import Derived.Test.YtaimljagflnfpaaScript2
import Derived.Test.YtaimljagflnfpaaCommutePlain
namespace Go.Proofs.Ytaimljagflnfpaa
open Go.RowKit

set_option maxRecDepth 100000 in
set_option maxHeartbeats 1600000 in
theorem fnDeletesCommute_ok (A : Option Addr) (n c : Nat) (xs : List Int) (i j k l : Int) (w : World) (hx : Row w 1 A n c (ints xs)) (hn : n ≤ 17592186043904) :
    Calls Try.prog 5 #[.slice A n c, .int .i64 i, .int .i64 j, .int .i64 k, .int .i64 l] w fun e w' => e = .returned (.bool true) ∧ Ext w w' := by
  by_cases h0 : i < 0
  · have h0' : decide (i < 0) = true := by simpa using h0
    go_enter Try.func5, Try.ntmps5
    go_wp2
    go_ret
    exact ⟨rfl, Ext.refl w⟩
  by_cases h1 : j < i
  · have h1' : decide (j < i) = true := by simpa using h1
    go_enter Try.func5, Try.ntmps5
    go_wp2
    go_ret
    exact ⟨rfl, Ext.refl w⟩
  by_cases h2 : k < j
  · have h2' : decide (k < j) = true := by simpa using h2
    go_enter Try.func5, Try.ntmps5
    go_wp2
    go_ret
    exact ⟨rfl, Ext.refl w⟩
  by_cases h3 : l < k
  · have h3' : decide (l < k) = true := by simpa using h3
    go_enter Try.func5, Try.ntmps5
    go_wp2
    go_ret
    exact ⟨rfl, Ext.refl w⟩
  by_cases h4 : (n : Int) < l
  · go_enter Try.func5, Try.ntmps5
    go_wp2
    go_ret
    exact ⟨rfl, Ext.refl w⟩
  obtain ⟨i, rfl⟩ := Int.eq_ofNat_of_zero_le (show 0 ≤ i by omega)
  obtain ⟨j, rfl⟩ := Int.eq_ofNat_of_zero_le (show 0 ≤ j by omega)
  obtain ⟨k, rfl⟩ := Int.eq_ofNat_of_zero_le (show 0 ≤ k by omega)
  obtain ⟨l, rfl⟩ := Int.eq_ofNat_of_zero_le (show 0 ≤ l by omega)
  obtain ⟨Z, e1, e2, e3⟩ := replaces_plain 1 hop1 xs [] [] (i := i) (j := j) (k := k) (m := l) (by omega) (by omega) (by omega) (by rw [hx.ints_len]; omega) (fun _ => rfl) (fun _ => rfl) ((k : Int) - ((j : Int) - (i : Int))) ((l : Int) - ((j : Int) - (i : Int))) (by simp; omega) (by simp; omega)
  rw [hx.ints_len] at e3
  have HX := Lib.hid hx
  have HE1 := Lib.hid e1
  have HE2 := Lib.hid e2
  obtain ⟨N, hN⟩ : ∃ N, N = Z.length := ⟨_, rfl⟩
  rw [← hN] at e3
  have HN : Hid (Z.length = N) := Lib.hid hN.symm
  have hbN : ((N : Int) == (n : Int) - ((j : Int) - (i : Int)) - ((l : Int) - (k : Int))) = true := by simp at e3 ⊢; omega
  clear hx e1 e2 e3 hN
  go_enter Try.func5, Try.ntmps5
  go_wp2_with fail
  refine (last_two A n c xs w _ rfl _ _ _ _ _ _ [] [] none none 0 0 0 0 HX.out (Row.nil w 1) (Row.nil w 1) (by omega) Z N HE1.out HN.out).mono ?_
  rintro e w1 ⟨C1, q1, rfl, k1, k2⟩
  have HR1 := Lib.hid k1
  have HW1 := Lib.hid k2
  clear k1 k2
  go_wp2_with fail
  refine (last_two A n c xs w1 _ rfl _ _ _ _ _ _ [] [] none none 0 0 0 0 (HX.out.ext HW1.out) (Row.nil w1 1) (Row.nil w1 1) (by omega) Z N HE2.out HN.out).mono ?_
  rintro e w2 ⟨C2, q2, rfl, k1, k2⟩
  have HR2 := Lib.hid k1
  have HW2 := Lib.hid k2
  clear k1 k2
  go_wp2_with fail
  refine (same_true C1 C2 N N q1 q2 Z w2 (HR1.out.ext HW2.out) HR2.out).mono ?_
  rintro e w3 ⟨rfl, k1⟩
  have HW3 := Lib.hid k1
  clear k1
  go_wp2
  go_ret
  exact ⟨rfl, (HW1.out.trans HW2.out).trans HW3.out⟩
end Go.Proofs.Ytaimljagflnfpaa
