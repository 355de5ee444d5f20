/- The contract of laws.compact. No statement of the seat is proved here. -/
import Derived.Test.YtaimljagflnfpaaScript2
namespace Go.Proofs.Ytaimljagflnfpaa
open Go.RowKit

set_option maxRecDepth 100000 in
set_option maxHeartbeats 800000 in
theorem compact_ok (A : Option Addr) (n c : Nat) (xs Z : List Int) (N : Nat) (w : World) (hx : Row w 1 A n c (ints xs)) (hn : n ≤ 17592186043904) (hZ : compO none xs = Z) (hN : Z.length = N) :
    Calls Try.prog 15 #[.slice A n c] w fun e w' => ∃ C q, e = .returned (.tuple #[.slice C N q, .bool true]) ∧ Row w' 1 C N q (ints Z) ∧ Ext w w' := by
  have HX := Lib.hid hx
  have HE1 : Hid (eend xs [(3, 0, 0, [])] = Z) := Lib.hid (by simp only [eend]; rw [← hZ]; unfold stepP; rw [editP_3]; rfl)
  have HN := Lib.hid hN
  clear hx hZ hN
  go_enter Try.func15, Try.ntmps15
  go_wp2_with fail
  refine (last_one A n c xs w _ rfl _ _ _ [] none 0 0 HX.out (Row.nil w 1) (by omega) Z N HE1.out HN.out).mono ?_
  rintro e w1 ⟨C1, q1, rfl, k1, k2⟩
  have HR1 := Lib.hid k1
  have HW1 := Lib.hid k2
  clear k1 k2
  go_wp2
  go_ret2
  exact ⟨C1, q1, rfl, HR1.out, HW1.out⟩
end Go.Proofs.Ytaimljagflnfpaa
