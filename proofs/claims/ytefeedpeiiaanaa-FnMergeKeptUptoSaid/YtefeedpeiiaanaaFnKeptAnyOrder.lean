/- The walk of laws.FnKeptAnyOrder. No statement of the seat is proved here. -/
import Derived.Test.YtefeedpeiiaanaaSameItems
import Derived.Test.YtefeedpeiiaanaaMixed
import Derived.Test.YtefeedpeiiaanaaQueuePlain
namespace Go.Proofs.Ytefeedpeiiaanaa
open Go.RowKit

theorem Row.nil_sts (w : World) : Row w 4 none 0 0 (sts []) := Row.nil w 4

set_option maxRecDepth 100000 in
set_option maxHeartbeats 1600000 in
theorem fnKeptAnyOrder_ok (A0 A1 A2 : Option Addr) (n0 n1 n2 c0 c1 c2 : Nat) (x0 x1 x2 : List Int) (w : World) (h0 : Row w 1 A0 n0 c0 (ints x0)) (h1 : Row w 1 A1 n1 c1 (ints x1)) (h2 : Row w 1 A2 n2 c2 (ints x2)) (hs : n0 ≤ 1073741824) :
    Calls Try.prog 7 #[.slice A0 n0 c0, .slice A1 n1 c1, .slice A2 n2 c2] w fun e w' => e = .returned (.bool true) ∧ Ext w w' := by
  have HI := Lib.hid (items_ok A0 A1 n0 n1 c0 c1 x0 x1 w h0 h1 (by omega))
  have H2 := Lib.hid h2
  clear h0 h1 h2
  have hk : min n0 n1 ≤ 1073741824 := by omega
  generalize min n0 n1 = n at HI hk
  go_enter Try.func7, Try.ntmps7
  go_wp2_with fail
  refine HI.out.mono ?_
  rintro e w1 ⟨B1, q1, rfl, hr1, hx1⟩
  generalize x0.zip x1 = xs at hr1
  have hxl : xs.length = n := hr1.its_len
  have HXL := Lib.hid hxl
  have HR1 := Lib.hid hr1
  have HX1 := Lib.hid hx1
  clear hr1 hx1 hxl
  go_wp2_with fail
  refine (keptAll_ok B1 none _ 0 q1 0 xs [] w1 HR1.out (Row.nil_sts w1) (by omega) (by omega)).mono ?_
  rintro e w2 ⟨B2, q2, rfl, hr2, hx2⟩
  have HR2 := Lib.hid hr2
  have HX2 := Lib.hid hx2
  clear hr2 hx2
  go_wp2_with fail
  refine (mixed_ok B1 A2 n n2 q1 c2 xs x2 w2 (HR1.out.ext HX2.out) (H2.out.ext (HX1.out.trans HX2.out)) (by omega)).mono ?_
  rintro e w3 ⟨B3, q3, L, rfl, hr3, hp3, hx3⟩
  have HR3 := Lib.hid hr3
  have HX3 := Lib.hid hx3
  have hL : sortP L = sortP xs := sortP_of_perm hp3
  have HL := Lib.hid hL
  clear hr3 hx3 hp3 hL
  go_wp2_with fail
  refine (keptAll_ok B3 none _ 0 q3 0 L [] w3 HR3.out (Row.nil_sts w3) (by omega) (by omega)).mono ?_
  rw [HL.out]
  rintro e w4 ⟨B4, q4, rfl, hr4, hx4⟩
  obtain ⟨b, o, is, y1, y2, l, B5, q5, rfl, hl, -, -, -, ha, HA⟩ := (HR2.out.ext (HX3.out.trans hx4)).at_ (k := 0) (by omega)
  obtain rfl : l = sortP xs := by have := hl.out; simp at this; exact this.2.2.symm
  clear hl
  obtain ⟨b', o', is', y1', y2', l, B6, q6, rfl, hl, -, -, -, hb, HB⟩ := hr4.at_ (k := 0) (by omega)
  obtain rfl : l = sortP xs := by have := hl.out; simp at this; exact this.2.2.symm
  clear hl
  have a3 : w4.cell? ⟨b, o + 3, none⟩ = some (.slice B5 (sortP xs).length q5) := by simpa using ha
  have b3 : w4.cell? ⟨b', o' + 3, none⟩ = some (.slice B6 (sortP xs).length q6) := by simpa using hb
  have HX4 : Hid (Ext w w4) := HX1.out.trans (HX2.out.trans (HX3.out.trans hx4))
  clear ha hb hr4 hx4
  have HSL : Hid ((sortP xs).length = n) := by unfold Hid; rw [sortP_length]; exact HXL.out
  rw [HSL.out] at a3 b3
  have HA' : Hid (Row w4 2 B5 n q5 (its (sortP xs))) := by have := HA.out; rw [HSL.out] at this; exact this
  have HB' : Hid (Row w4 2 B6 n q6 (its (sortP xs))) := by have := HB.out; rw [HSL.out] at this; exact this
  clear HA HB
  have sb : ((n : Int) == (n : Int)) = true := by simp
  go_wp2_with fail
  go_region_held3 (fun w' => w'.cell? ⟨b, o + 3, none⟩ = some (.slice B5 n q5) ∧ w'.cell? ⟨b', o' + 3, none⟩ = some (.slice B6 n q6))
    (first | (have hq : Ext w4 w5 := ((Ext.refl w4).drew).trans hx5; exact ⟨hq.cell_some a3, hq.cell_some b3⟩) | exact ⟨a3, b3⟩)
    ((go_at_call 20; refine (sameItems_ok B5 B6 n n q5 q6 (sortP xs) (sortP xs) _ (HA'.out.ext (Ext.refl w4).drew) (HB'.out.ext (Ext.refl w4).drew)).mono ?_; rintro e w5 ⟨rfl, hx5⟩))
  have HX5 : Hid (Ext w w5) := HX4.out.trans ((Ext.refl w4).drew.trans hx5)
  clear hx5
  go_wp2
  go_ret
  exact ⟨rfl, HX5.out⟩
end Go.Proofs.Ytefeedpeiiaanaa
