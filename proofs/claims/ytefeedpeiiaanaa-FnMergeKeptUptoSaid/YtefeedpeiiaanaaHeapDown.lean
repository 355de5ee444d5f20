/- The contract of container/heap.down over impl.itemHeap. No statement of the seat is proved here. -/
import Derived.Test.YtefeedpeiiaanaaHeapUp
namespace Go.Proofs.Ytefeedpeiiaanaa
open Go.RowKit

theorem downL_end {f k n : Nat} {M : List (Int × Int)} (h : n ≤ 2 * k + 1) : downL f M k n = (M, k) := by
  cases f with
  | zero => rfl
  | succ f => unfold downL; rw [if_pos h]
theorem downL_stop {f k n j : Nat} {M : List (Int × Int)} (hj : childL M k n = j) (h : ltP (at0 M j) (at0 M k) = false) : downL f M k n = (M, k) := by
  cases f with
  | zero => rfl
  | succ f =>
    unfold downL
    split
    · rfl
    · rw [hj, h]; simp
theorem downL_go {f k n j : Nat} {M : List (Int × Int)} (hn : 2 * k + 1 < n) (hj : childL M k n = j) (h : ltP (at0 M j) (at0 M k) = true) : downL (f + 1) M k n = downL f (swapL M k j) j n := by
  conv => lhs; unfold downL
  rw [if_neg (by omega), hj, if_pos h]
theorem child_right {M : List (Int × Int)} {k n : Nat} (h : 2 * k + 2 < n) (hc : ltP (at0 M (2 * k + 2)) (at0 M (2 * k + 1)) = true) : childL M k n = 2 * k + 2 := by
  unfold childL
  rw [if_pos ⟨h, hc⟩]
theorem child_left {M : List (Int × Int)} {k n : Nat} (h : n ≤ 2 * k + 2 ∨ ltP (at0 M (2 * k + 2)) (at0 M (2 * k + 1)) = false) : childL M k n = 2 * k + 1 := by
  unfold childL
  rw [if_neg]
  rintro ⟨h1, h2⟩
  rcases h with h | h
  · omega
  · rw [h] at h2; cases h2

/-- What is known at the head of a round. -/
def DownAt (w : World) (base p N n : Nat) (v : Value) (Z : List (Int × Int) × Nat) (f k : Nat) (M : List (Int × Int)) (wr : World) : Prop :=
  downL f M k n = Z ∧ n - k ≤ f ∧ HSt wr base p N v M ∧ w.grownBy wr v.ownBlock
theorem DownAt.ext {w : World} {base p N n : Nat} {v : Value} {Z : List (Int × Int) × Nat} {f k : Nat} {M : List (Int × Int)} {wr w1 : World} (h : DownAt w base p N n v Z f k M wr) (hx : Ext wr w1) : DownAt w base p N n v Z f k M w1 :=
  ⟨h.1, h.2.1, h.2.2.1.ext hx, grown_trans h.2.2.2 (grown_of_ext hx _)⟩
theorem DownAt.next {w : World} {base p N n : Nat} {v : Value} {Z : List (Int × Int) × Nat} {f k j : Nat} {M : List (Int × Int)} {wr w1 : World} (h : DownAt w base p N n v Z f k M wr) (hn : 2 * k + 1 < n) (hj : childL M k n = j) (hl : ltP (at0 M j) (at0 M k) = true)
    (ho : w1.ownsRow base 28 2 v N (its (swapL M k j))) (hg : wr.grownBy w1 v.ownBlock) : DownAt w base p N n v Z (f - 1) j (swapL M k j) w1 := by
  obtain ⟨h1, h2, h3, h4⟩ := h
  obtain ⟨g, rfl⟩ : ∃ g, f = g + 1 := ⟨f - 1, by omega⟩
  have hc := childL_lt (L := M) hn
  rw [hj] at hc
  rw [downL_go hn hj hl] at h1
  exact ⟨h1, by omega, h3.swap ho hg, grown_trans h4 hg⟩

set_option maxRecDepth 100000 in
set_option maxHeartbeats 1600000 in
theorem down_ok (w : World) (base p N : Nat) (v : Value) (L : List (Int × Int)) (i n : Nat) (h : HSt w base p N v L) (hn : n ≤ N) (hi : i ≤ N) (hs : N ≤ 1099511627776) :
    Calls Try.prog 28 #[.iface 50 (.pointer (some ⟨p, 0, none⟩)), .int .i64 (i : Int), .int .i64 (n : Int)] w fun e w' => e = .returned (.bool (decide (i < (downL n L i n).2))) ∧ HSt w' base p N v (downL n L i n).1 ∧ w.grownBy w' v.ownBlock := by
  obtain ⟨A, c, rfl, -⟩ := h.form
  obtain ⟨Z, hZ⟩ : ∃ Z, downL n L i n = Z := ⟨_, rfl⟩
  rw [hZ]
  have HD : Hid (DownAt w base p N n (.slice A N c) Z n i L w) := Lib.hid ⟨hZ, by omega, h, World.grownBy.refl w _⟩
  clear hZ h
  go_enter Try.func28, Try.ntmps28
  go_wp2
  go_loopg [7] n (fun kx s wr => ∃ (k : Nat) (M : List (Int × Int)), s = .int .i64 (k : Int) ∧ k ≤ N ∧ Hid (DownAt w base p N n (.slice A N c) Z kx k M wr))
  case atStart => exact ⟨i, L, rfl, hi, HD.out⟩
  case round =>
    obtain ⟨k, M, rfl, hkl, HD⟩ := hrel
    have hfin : Hid (∀ wx, DownAt w base p N n (.slice A N c) Z gk k M wx → downL gk M k n = (M, k) → HSt wx base p N (.slice A N c) Z.1 ∧ Z.2 = k ∧ w.grownBy wx (Value.slice A N c).ownBlock) := fun wx hd he => by
      obtain ⟨h1, h2, h3, h4⟩ := hd
      rw [he] at h1
      subst h1
      exact ⟨h3, rfl, h4⟩
    by_cases hend : n ≤ 2 * k + 1
    · have hd1 : decide (2 * (k : Int) + 1 ≥ (n : Int)) = true := by simp; omega
      obtain ⟨h1, h2, h3⟩ := hfin.out wr HD.out (downL_end hend)
      have H1 := Lib.hid h1
      have H2 := Lib.hid h2
      have H3 := Lib.hid h3
      clear h1 h2 h3
      go_wp2
      go_ret
      rw [H2.out]
      exact ⟨rfl, H1.out, H3.out⟩
    · have hd1 : decide (2 * (k : Int) + 1 ≥ (n : Int)) = false := by simp; omega
      have hn1 : 2 * k + 1 < n := by omega
      obtain ⟨j1, hj1⟩ : ∃ j1, j1 = 2 * k + 1 := ⟨_, rfl⟩
      obtain ⟨j2, hj2⟩ : ∃ j2, j2 = 2 * k + 2 := ⟨_, rfl⟩
      have e1 : 2 * (k : Int) + 1 = (j1 : Int) := by omega
      have e2 : (j1 : Int) + 1 = (j2 : Int) := by omega
      rw [e1] at hd1
      have hj1n : j1 < n := by omega
      have hj1N : j1 < N := by omega
      have hkN : k < N := by omega
      have HJ1 := Lib.hid hj1
      have HJ2 := Lib.hid hj2
      have HR := Lib.hid (Row.own HD.out.2.2.1.own)
      have hml := method_less p _ wr HD.out.2.2.1.cell
      by_cases h2 : j2 < n
      · have hj2N : j2 < N := by omega
        have hd2 : decide ((j2 : Int) < (n : Int)) = true := by simpa using h2
        by_cases hc : ltP (at0 M j2) (at0 M j1) = true
        · have HC : Hid (childL M k n = j2) := Lib.hid (by rw [HJ2.out]; exact child_right (by omega) (by rw [← HJ2.out, ← HJ1.out]; exact hc))
          clear hj1 hj2
          go_wp2_with fail
          refine (less_ok A N c j2 j1 M _ HR.out hj2N hj1N).mono ?_
          rintro e w1 ⟨rfl, hx1⟩
          have HD1 := Lib.hid (HD.out.ext hx1)
          have hml1 := method_less p _ w1 HD1.out.2.2.1.cell
          by_cases hl : ltP (at0 M j2) (at0 M k) = true
          · go_wp2_with fail
            refine (less_ok A N c j2 k M _ (HR.out.ext hx1) hj2N hkN).mono ?_
            rintro e w2 ⟨rfl, hx2⟩
            have HD2 := Lib.hid (HD1.out.ext hx2)
            have hms := method_swap p _ w2 HD2.out.2.2.1.cell
            go_wp2_with fail
            refine (swap_ok w2 base (.slice A N c) N k j2 M HD2.out.2.2.1.own hkN hj2N).mono ?_
            rintro e w3 ⟨rfl, ho3, hg3⟩
            have HD3 := Lib.hid (HD2.out.next hn1 HC.out hl ho3 hg3)
            clear ho3 hg3 hms hml
            go_wp2
            go_roundg (gk - 1)
            case measure => have := HD.out.2.1; omega
            case rel => exact ⟨j2, _, rfl, by omega, HD3.out⟩
          · have hl2 : ltP (at0 M j2) (at0 M k) = false := by simpa using hl
            clear hl
            go_wp2_with fail
            refine (less_ok A N c j2 k M _ (HR.out.ext hx1) hj2N hkN).mono ?_
            rintro e w2 ⟨rfl, hx2⟩
            obtain ⟨h1, h2, h3⟩ := hfin.out w2 (HD1.out.ext hx2) (downL_stop HC.out hl2)
            have H1 := Lib.hid h1
            have H2 := Lib.hid h2
            have H3 := Lib.hid h3
            clear h1 h2 h3
            go_wp2
            go_ret
            rw [H2.out]
            exact ⟨rfl, H1.out, H3.out⟩
        · have hc2 : ltP (at0 M j2) (at0 M j1) = false := by simpa using hc
          clear hc
          have HC : Hid (childL M k n = j1) := Lib.hid (by rw [HJ1.out]; exact child_left (.inr (by rw [← HJ2.out, ← HJ1.out]; exact hc2)))
          clear hj1 hj2
          go_wp2_with fail
          refine (less_ok A N c j2 j1 M _ HR.out hj2N hj1N).mono ?_
          rintro e w1 ⟨rfl, hx1⟩
          have HD1 := Lib.hid (HD.out.ext hx1)
          have hml1 := method_less p _ w1 HD1.out.2.2.1.cell
          by_cases hl : ltP (at0 M j1) (at0 M k) = true
          · go_wp2_with fail
            refine (less_ok A N c j1 k M _ (HR.out.ext hx1) hj1N hkN).mono ?_
            rintro e w2 ⟨rfl, hx2⟩
            have HD2 := Lib.hid (HD1.out.ext hx2)
            have hms := method_swap p _ w2 HD2.out.2.2.1.cell
            go_wp2_with fail
            refine (swap_ok w2 base (.slice A N c) N k j1 M HD2.out.2.2.1.own hkN hj1N).mono ?_
            rintro e w3 ⟨rfl, ho3, hg3⟩
            have HD3 := Lib.hid (HD2.out.next hn1 HC.out hl ho3 hg3)
            clear ho3 hg3 hms hml
            go_wp2
            go_roundg (gk - 1)
            case measure => have := HD.out.2.1; omega
            case rel => exact ⟨j1, _, rfl, by omega, HD3.out⟩
          · have hl2 : ltP (at0 M j1) (at0 M k) = false := by simpa using hl
            clear hl
            go_wp2_with fail
            refine (less_ok A N c j1 k M _ (HR.out.ext hx1) hj1N hkN).mono ?_
            rintro e w2 ⟨rfl, hx2⟩
            obtain ⟨h1, h2, h3⟩ := hfin.out w2 (HD1.out.ext hx2) (downL_stop HC.out hl2)
            have H1 := Lib.hid h1
            have H2 := Lib.hid h2
            have H3 := Lib.hid h3
            clear h1 h2 h3
            go_wp2
            go_ret
            rw [H2.out]
            exact ⟨rfl, H1.out, H3.out⟩
      · have hd2 : decide ((j2 : Int) < (n : Int)) = false := by simpa using h2
        have HC : Hid (childL M k n = j1) := Lib.hid (by rw [HJ1.out]; exact child_left (.inl (by omega)))
        clear hj1 hj2
        by_cases hl : ltP (at0 M j1) (at0 M k) = true
        · go_wp2_with fail
          refine (less_ok A N c j1 k M _ (HR.out) hj1N hkN).mono ?_
          rintro e w2 ⟨rfl, hx2⟩
          have HD2 := Lib.hid (HD.out.ext hx2)
          have hms := method_swap p _ w2 HD2.out.2.2.1.cell
          go_wp2_with fail
          refine (swap_ok w2 base (.slice A N c) N k j1 M HD2.out.2.2.1.own hkN hj1N).mono ?_
          rintro e w3 ⟨rfl, ho3, hg3⟩
          have HD3 := Lib.hid (HD2.out.next hn1 HC.out hl ho3 hg3)
          clear ho3 hg3 hms hml
          go_wp2
          go_roundg (gk - 1)
          case measure => have := HD.out.2.1; omega
          case rel => exact ⟨j1, _, rfl, by omega, HD3.out⟩
        · have hl2 : ltP (at0 M j1) (at0 M k) = false := by simpa using hl
          clear hl
          go_wp2_with fail
          refine (less_ok A N c j1 k M _ (HR.out) hj1N hkN).mono ?_
          rintro e w2 ⟨rfl, hx2⟩
          obtain ⟨h1, h2, h3⟩ := hfin.out w2 (HD.out.ext hx2) (downL_stop HC.out hl2)
          have H1 := Lib.hid h1
          have H2 := Lib.hid h2
          have H3 := Lib.hid h3
          clear h1 h2 h3
          go_wp2
          go_ret
          rw [H2.out]
          exact ⟨rfl, H1.out, H3.out⟩
end Go.Proofs.Ytefeedpeiiaanaa
