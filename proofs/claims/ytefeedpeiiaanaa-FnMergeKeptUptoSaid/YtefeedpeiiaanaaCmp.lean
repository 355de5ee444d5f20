/- The contracts of cmp.Compare and cmp.isNaN at int. No statement of the seat is proved here. -/
import Derived.Test.YtefeedpeiiaanaaItems
namespace Go.Proofs.Ytefeedpeiiaanaa
open Go.RowKit

theorem isNaN_ok (x : Int) (w : World) : Calls Try.prog 46 #[.int .i64 x] w fun e w' => e = .returned (.bool false) ∧ w = w' := by
  go_enter Try.func46, Try.ntmps46
  go_wp2
  go_ret
  exact ⟨rfl, rfl⟩

/-- What cmp.Compare says of two ints. -/
def cmpI (x y : Int) : Int := if x < y then -1 else if y < x then 1 else 0

theorem compare_ok (x y : Int) (w : World) : Calls Try.prog 43 #[.int .i64 x, .int .i64 y] w fun e w' => e = .returned (.int .i64 (cmpI x y)) ∧ w = w' := by
  have h1 : x < y → cmpI x y = -1 := fun h => by simp [cmpI, h]
  have h2 : y < x → cmpI x y = 1 := fun h => by rw [cmpI, if_neg (by omega), if_pos h]
  have h3 : y ≤ x → x ≤ y → cmpI x y = 0 := fun h h' => by rw [cmpI, if_neg (by omega), if_neg (by omega)]
  have H1 := Lib.hid h1
  have H2 := Lib.hid h2
  have H3 := Lib.hid h3
  clear h1 h2 h3
  go_enter Try.func43, Try.ntmps43
  go_wp2_with (go_at_call 46; refine (isNaN_ok _ _).mono ?_; rintro e w' ⟨rfl, rfl⟩)
  all_goals go_ret
  · exact ⟨ret_int (H1.out (by assumption)).symm, rfl⟩
  · exact ⟨ret_int (H2.out (by assumption)).symm, rfl⟩
  · exact ⟨ret_int (H3.out (by assumption) (by assumption)).symm, rfl⟩
end Go.Proofs.Ytefeedpeiiaanaa
