/- The contract of laws.sameItems: whether two lists of items are the same. No statement of the seat is proved here. -/
import Derived.Test.YtefeedpeiiaanaaLawSteps
namespace Go.Proofs.Ytefeedpeiiaanaa
open Go.RowKit

theorem take_succ_eq {α : Type} {xs ys : List α} {k : Nat} {a : α} (h : xs.take k = ys.take k) (h1 : xs[k]? = some a) (h2 : ys[k]? = some a) : xs.take (k + 1) = ys.take (k + 1) := by
  rw [take_snoc h1, take_snoc h2, h]

set_option maxRecDepth 100000 in
set_option maxHeartbeats 800000 in
theorem sameItems_ok (A B : Option Addr) (n m c d : Nat) (xs ys : List (Int × Int)) (w : World) (hx : Row w 2 A n c (its xs)) (hy : Row w 2 B m d (its ys)) :
    Calls Try.prog 20 #[.slice A n c, .slice B m d] w fun e w' => e = .returned (.bool (decide (xs = ys))) ∧ Ext w w' := by
  have hnl := hx.lim
  have hml := hy.lim
  have hxl := hx.its_len
  have hyl := hy.its_len
  unfold maxLen at hnl hml
  have HX := Lib.hid hx
  have HY := Lib.hid hy
  clear hx hy
  by_cases hnm : n = m
  · subst hnm
    go_enter Try.func20, Try.ntmps20
    go_wp2
    go_loopg [13] n (fun kx i wr => ∃ k : Nat, k + kx = n ∧ i = .int .i64 (k : Int) ∧ Hid (xs.take k = ys.take k) ∧ Hid (Ext w wr))
    case atStart => exact ⟨0, by omega, rfl, rfl, Ext.refl w⟩
    case round =>
      obtain ⟨k, hk, rfl, HT, HE⟩ := hrel
      by_cases hlt : k < n
      · obtain ⟨b1, o1, x1, x2, rfl, hxk, hc1, hc2⟩ := (HX.out.ext HE.out).item_at (k := k) hlt
        obtain ⟨b2, o2, y1, y2, rfl, hyk, hd1, hd2⟩ := (HY.out.ext HE.out).item_at (k := k) hlt
        by_cases he : x1 = y1 ∧ x2 = y2
        · obtain ⟨rfl, rfl⟩ := he
          have HN := Lib.hid (take_succ_eq HT.out hxk.out hyk.out)
          go_wp2
          go_region_held3 (fun w' => w'.cell? ⟨b1, o1 + k * 2, none⟩ = some (.int .i64 x1) ∧ w'.cell? ⟨b1, o1 + k * 2 + 1, none⟩ = some (.int .i64 x2) ∧ w'.cell? ⟨b2, o2 + k * 2, none⟩ = some (.int .i64 x1) ∧ w'.cell? ⟨b2, o2 + k * 2 + 1, none⟩ = some (.int .i64 x2)) (go_keep) (fail)
          go_wp2
          go_roundg (gk - 1)
          case measure => omega
          case rel => exact ⟨k + 1, by omega, by go_num, HN.out, HE.out.drew⟩
        · have HNE : Hid (xs ≠ ys) := fun e => he (by
            have h1 := hxk.out
            rw [e, hyk.out] at h1
            simp at h1
            exact ⟨h1.1.symm, h1.2.symm⟩)
          by_cases h1 : x1 = y1
          · subst h1
            have h2 : ¬x2 = y2 := fun e => he ⟨rfl, e⟩
            clear he
            go_wp2
            go_region_held3 (fun w' => w'.cell? ⟨b1, o1 + k * 2, none⟩ = some (.int .i64 x1) ∧ w'.cell? ⟨b1, o1 + k * 2 + 1, none⟩ = some (.int .i64 x2) ∧ w'.cell? ⟨b2, o2 + k * 2, none⟩ = some (.int .i64 x1) ∧ w'.cell? ⟨b2, o2 + k * 2 + 1, none⟩ = some (.int .i64 y2)) (go_keep) (fail)
            go_wp2
            exact bodyPost_ret (v := .bool false) (by simp [results, Try.results20, go_sem]) rfl ⟨by rw [decide_eq_false HNE.out], HE.out.drew⟩
          · clear he
            go_wp2
            go_region_held3 (fun w' => w'.cell? ⟨b1, o1 + k * 2, none⟩ = some (.int .i64 x1) ∧ w'.cell? ⟨b1, o1 + k * 2 + 1, none⟩ = some (.int .i64 x2) ∧ w'.cell? ⟨b2, o2 + k * 2, none⟩ = some (.int .i64 y1) ∧ w'.cell? ⟨b2, o2 + k * 2 + 1, none⟩ = some (.int .i64 y2)) (go_keep) (fail)
            go_wp2
            exact bodyPost_ret (v := .bool false) (by simp [results, Try.results20, go_sem]) rfl ⟨by rw [decide_eq_false HNE.out], HE.out.drew⟩
      · obtain rfl : k = n := by omega
        have HQ : Hid (xs = ys) := by
          have h := HT.out
          rw [List.take_of_length_le (by omega), List.take_of_length_le (by omega)] at h
          exact h
        go_wp2
        exact bodyPost_ret (v := .bool true) (by simp [results, Try.results20, go_sem]) rfl ⟨by rw [decide_eq_true HQ.out], HE.out⟩
  · go_enter Try.func20, Try.ntmps20
    go_wp2
    have hne : xs ≠ ys := fun e => hnm (by rw [← hxl, ← hyl, e])
    exact bodyPost_ret (v := .bool false) (by simp [results, Try.results20, go_sem]) rfl ⟨by rw [decide_eq_false hne], Ext.refl w⟩
end Go.Proofs.Ytefeedpeiiaanaa
