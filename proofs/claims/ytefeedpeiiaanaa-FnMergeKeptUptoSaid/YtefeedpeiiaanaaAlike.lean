/- The contract of laws.alike: two scripts have given the same. No statement of the seat is proved here. -/
import Derived.Test.YtefeedpeiiaanaaSameItems
import Derived.Test.YtefeedpeiiaanaaSortedIts
namespace Go.Proofs.Ytefeedpeiiaanaa
open Go.RowKit

/-- Two scripts have given the same, and have the same items behind each step. -/
def RowsLike (D E : List DEnt) : Prop := ∀ (i : Nat) (d e : DEnt), D[i]? = some d → E[i]? = some e → d.1 = e.1 ∧ d.2.1 = e.2.1 ∧ sortP d.2.2 = sortP e.2.2
def RowsSmall (D : List DEnt) : Prop := ∀ d ∈ D, d.2.2.length ≤ 1099511627776

set_option maxRecDepth 100000 in
set_option maxHeartbeats 1600000 in
theorem alike_ok (A B : Option Addr) (n c d : Nat) (D E : List DEnt) (w : World) (hx : Dones w A n c D) (hy : Dones w B n d E) (hl : RowsLike D E) (hd : RowsSmall D) (he : RowsSmall E) :
    Calls Try.prog 19 #[.slice A n c, .slice B n d] w fun e w' => e = .returned (.bool true) ∧ Ext w w' := by
  have hlim := hx.lim
  unfold maxLen at hlim
  have HX := Lib.hid hx
  have HY := Lib.hid hy
  have HL := Lib.hid hl
  have HD := Lib.hid hd
  have HE := Lib.hid he
  clear hx hy hl hd he
  go_enter Try.func19, Try.ntmps19
  go_wp2
  go_loopg [13] n (fun kx i wr => ∃ k : Nat, k + kx = n ∧ i = .int .i64 (k : Int) ∧ Hid (Ext w wr))
  case atStart => exact ⟨0, by omega, rfl, Ext.refl w⟩
  case round =>
    obtain ⟨k, hk, rfl, HW⟩ := hrel
    by_cases hlt : k < n
    · obtain ⟨b, o, is, x1, x2, l, B1, q1, rfl, hl, a0, a1, a2, a3, HB1⟩ := (HX.out.ext HW.out).at_ (k := k) hlt
      obtain ⟨b', o', is', y1, y2, l', B2, q2, rfl, hl', b0, b1, b2, b3, HB2⟩ := (HY.out.ext HW.out).at_ (k := k) hlt
      obtain ⟨e1, e2, e3⟩ := HL.out k _ _ hl.out hl'.out
      simp only at e1 e2 e3
      subst e1
      injection e2 with e21 e22
      subst e21 e22
      have HS := Lib.hid e3
      have hn1 := HD.out _ (List.mem_of_getElem? hl.out)
      have hn2 := HE.out _ (List.mem_of_getElem? hl'.out)
      simp only at hn1 hn2
      have hbb : (is != is) = false := by simp
      clear e3
      go_wp2
      go_region_held3 (fun w' => w'.cell? ⟨b, o + k * 4, none⟩ = some (.bool is) ∧ w'.cell? ⟨b, o + k * 4 + 1, none⟩ = some (.int .i64 x1) ∧ w'.cell? ⟨b, o + k * 4 + 1 + 1, none⟩ = some (.int .i64 x2) ∧ w'.cell? ⟨b, o + k * 4 + 3, none⟩ = some (.slice B1 l.length q1) ∧ w'.cell? ⟨b', o' + k * 4, none⟩ = some (.bool is) ∧ w'.cell? ⟨b', o' + k * 4 + 1, none⟩ = some (.int .i64 x1) ∧ w'.cell? ⟨b', o' + k * 4 + 1 + 1, none⟩ = some (.int .i64 x2) ∧ w'.cell? ⟨b', o' + k * 4 + 3, none⟩ = some (.slice B2 l'.length q2))
        (first | (have hq : Ext wr w3 := ((((Ext.refl wr).drew).trans hx1).trans hx2).trans hx3; exact ⟨hq.cell_some a0, hq.cell_some a1, hq.cell_some a2, hq.cell_some a3, hq.cell_some b0, hq.cell_some b1, hq.cell_some b2, hq.cell_some b3⟩) | (have hq : Ext wr w2 := (((Ext.refl wr).drew).trans hx1).trans hx2; exact ⟨hq.cell_some a0, hq.cell_some a1, hq.cell_some a2, hq.cell_some a3, hq.cell_some b0, hq.cell_some b1, hq.cell_some b2, hq.cell_some b3⟩) | (have hq : Ext wr w1 := ((Ext.refl wr).drew).trans hx1; exact ⟨hq.cell_some a0, hq.cell_some a1, hq.cell_some a2, hq.cell_some a3, hq.cell_some b0, hq.cell_some b1, hq.cell_some b2, hq.cell_some b3⟩) | exact ⟨a0, a1, a2, a3, b0, b1, b2, b3⟩)
        (first | (go_at_call 20; refine (sameItems_ok C1 C2 _ _ _ _ (sortP l) (sortP l') _ (hr1.ext hx2) hr2).mono ?_; rintro e w3 ⟨rfl, hx3⟩)
               | (go_at_call 21; refine (sorted_ok B2 l'.length q2 l' _ (HB2.out.ext ((Ext.refl wr).drew.trans hx1)) hn2).mono ?_; rintro e w2 ⟨C2, p2, rfl, hr2, hx2⟩)
               | (go_at_call 21; refine (sorted_ok B1 l.length q1 l _ (HB1.out.ext (Ext.refl wr).drew) hn1).mono ?_; rintro e w1 ⟨C1, p1, rfl, hr1, hx1⟩))
      have HW3 : Hid (Ext w w3) := HW.out.trans ((Ext.refl wr).drew.trans (hx1.trans (hx2.trans hx3)))
      have hdt : decide (sortP l = sortP l') = true := by simpa using HS.out
      rw [hdt]
      clear hr1 hr2 hx1 hx2 hx3
      go_wp2
      go_roundg (gk - 1)
      case measure => omega
      case rel => exact ⟨k + 1, by omega, by go_num, HW3.out⟩
    · obtain rfl : k = n := by omega
      go_wp2
      exact bodyPost_ret (v := .bool true) (by simp [results, Try.results19, go_sem]) rfl ⟨rfl, HW.out⟩
end Go.Proofs.Ytefeedpeiiaanaa
