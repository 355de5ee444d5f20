/- The contract of laws.sorted: items in their order. No statement of the seat is proved here. -/
import Derived.Test.YtefeedpeiiaanaaSorted
import Derived.Test.YtefeedpeiiaanaaItems
namespace Go.Proofs.Ytefeedpeiiaanaa
open Go.RowKit

theorem zip_unzip (l : List (Int × Int)) : (l.map (·.1)).zip (l.map (·.2)) = l := by
  induction l with
  | nil => rfl
  | cons x l ih => simp [ih]

set_option maxHeartbeats 400000 in
theorem sorted_ok (A : Option Addr) (n c : Nat) (xs : List (Int × Int)) (w : World) (hx : Row w 2 A n c (its xs)) (hs : n ≤ 1099511627776) :
    Calls Try.prog 21 #[.slice A n c] w fun e w' => ∃ C k, e = .returned (.slice C n k) ∧ Row w' 2 C n k (its (sortP xs)) ∧ Ext w w' := by
  have HX := Lib.hid hx
  clear hx
  go_enter Try.func21, Try.ntmps21
  go_wp2_with fail
  refine (apart_ok _ _ _ xs _ HX.out hs).mono ?_
  rintro e w1 ⟨C1, k1, D1, q1, rfl, hr1, hs1, he1⟩
  have HR1 := Lib.hid hr1
  have HS1 := Lib.hid hs1
  have HE1 := Lib.hid he1
  clear hr1 hs1 he1
  go_wp2_with fail
  refine (sortedKT_ok _ _ _ _ _ _ _ _ HR1.out HS1.out hs).mono ?_
  rintro e w2 ⟨C2, k2, D2, q2, rfl, hr2, hs2, he2⟩
  rw [zip_unzip] at hr2 hs2
  have HR2 := Lib.hid hr2
  have HS2 := Lib.hid hs2
  have HE2 := Lib.hid he2
  clear hr2 hs2 he2
  go_wp2_with fail
  refine (items_ok _ _ _ _ _ _ _ _ _ HR2.out HS2.out hs).mono ?_
  rintro e w3 ⟨C3, k3, rfl, hr3, he3⟩
  rw [zip_unzip, Nat.min_self] at hr3
  rw [Nat.min_self]
  have HR3 := Lib.hid hr3
  have HE3 := Lib.hid he3
  clear hr3 he3
  go_wp2
  go_ret
  exact ⟨C3, k3, rfl, HR3.out, (HE1.out.trans HE2.out).trans HE3.out⟩
end Go.Proofs.Ytefeedpeiiaanaa
