/- laws.FnSearchAsks returns true, for every input whose slices are at most 2^20 long. -/
import Derived.Test.YtjmbdaofnnmldaaSearch
import Derived.Test.YtjmbdaofnnmldaaSortedIts
namespace Go.Proofs.Ytjmbdaofnnmldaa
open Go.RowKit

theorem div_two_pow (a j : Nat) : a / 2 ^ j / 2 = a / 2 ^ (j + 1) := by rw [Nat.div_div_eq_div_mul, Nat.pow_succ]
theorem lt_of_div_zero {a j : Nat} (h : a / 2 ^ j = 0) : a < 2 ^ j := by
  rcases Nat.lt_or_ge a (2 ^ j) with h1 | h1
  · exact h1
  · have := Nat.div_pos h1 (Nat.pow_pos (by omega : 0 < 2)); omega

set_option maxRecDepth 100000 in
set_option maxHeartbeats 1600000 in
theorem fnSearchAsks_ok (A : Option Addr) (n c : Nat) (xs : List Int) (key : Int) (w : World) (hx : Row w 1 A n c (ints xs)) (hs : n ≤ 1073741824) :
    Calls Try.prog 3 #[.slice A n c, .int .i64 key] w fun e w' => e = .returned (.bool true) ∧ Ext w w' := by
  have HX := Lib.hid hx
  clear hx
  go_enter Try.func3, Try.ntmps3
  go_wp2_with fail
  refine (items_ok _ _ _ _ _ _ _ _ _ HX.out HX.out (by omega)).mono ?_
  rw [Nat.min_self]
  rintro e w1 ⟨C1, k1, rfl, hr1, he1⟩
  have HR1 := Lib.hid hr1
  have HE1 := Lib.hid he1
  clear hr1 he1
  go_wp2_with fail
  refine (sorted_ok _ _ _ _ _ HR1.out (by omega)).mono ?_
  rintro e w2 ⟨C2, k2, rfl, hr2, he2⟩
  have HO := Lib.hid (sortP_ord (xs.zip xs))
  generalize sortP (xs.zip xs) = S at hr2 HO
  have HR2 := Lib.hid hr2
  have HE2 := Lib.hid he2
  clear hr2 he2
  go_wp2_with fail
  refine (search_ok _ _ _ S key _ HR2.out HO.out hs).mono ?_
  rintro e w3 ⟨i, is, k, B, q, rfl, hf, he3⟩
  have HF := Lib.hid hf
  have HE3 := Lib.hid he3
  clear hf he3
  have HEX := Lib.hid ((HE1.out.trans HE2.out).trans HE3.out)
  have HR3 := Lib.hid (HR2.out.ext HE3.out)
  go_wp2
  go_loopg [7, 8] n (fun kx s7 s8 wr => ∃ j m : Nat, s7 = .int .i64 ((j : Int) + 1) ∧ s8 = .int .i64 (m : Int) ∧ Hid (n / 2 ^ j = m) ∧ m ≤ kx ∧ j + kx ≤ n ∧ Hid (wr = w3.alloc (.cells #[.int .i64 i, .bool is, .slice B k q] 27)))
  case atStart => exact ⟨0, n, rfl, rfl, Lib.hid (by simp), Nat.le_refl _, by omega, rfl⟩
  case round =>
    obtain ⟨j, m, rfl, rfl, HJ, hm, hjk, HW⟩ := hrel
    by_cases hm0 : 0 < m
    · go_wp2
      go_roundg (gk - 1)
      case measure => omega
      case rel =>
        exact ⟨j + 1, m / 2, by go_num, by go_num, Lib.hid (by rw [← div_two_pow, HJ.out]), by omega, by omega, HW.out⟩
    · have HJ0 : Hid (n < 2 ^ j) := lt_of_div_zero (by rw [HJ.out]; omega)
      have hmost := HF.out.2.2.2.2.1 j HJ0.out
      obtain rfl := HW.out
      obtain rfl : m = 0 := by omega
      have hil := HF.out.1
      go_wp2
      go_loopg [9] n (fun kx s9 wr => ∃ t : Nat, s9 = .int .i64 (t : Int) ∧ t ≤ i ∧ t + kx = n ∧ Hid (wr = w3.alloc (.cells #[.int .i64 i, .bool is, .slice B k q] 27)))
      case atStart => exact ⟨0, rfl, Nat.zero_le _, by omega, rfl⟩
      case round =>
        obtain ⟨t, rfl, hti, htk, HW2⟩ := hrel
        obtain rfl := HW2.out
        by_cases htn : t < n
        · obtain ⟨b, o, x, y, rfl, hxk, hc1, _⟩ := (HR3.out.alloc (.cells #[.int .i64 i, .bool is, .slice B k q] 27)).item_at (k := t) htn
          by_cases hlt : x < key
          · have hti2 : t < i := by
              rcases Nat.lt_or_ge t i with h | h
              · exact h
              · have := HF.out.2.2.1 t _ h hxk.out; simp only at this; omega
            go_wp2
            go_roundg (gk - 1)
            case measure => omega
            case rel => exact ⟨t + 1, by go_num, by omega, by omega, rfl⟩
          · obtain rfl : t = i := by
              rcases Nat.lt_or_ge t i with h | h
              · have := HF.out.2.1 t _ h hxk.out; simp only at this; omega
              · omega
            have hkp : 0 < k := HF.out.2.2.2.2.2.2 (by omega)
            have hnp : 0 < n := by omega
            have hd : decide (x < key) = false := by simpa using hlt
            by_cases hxe : x = key
            · have hise : is = true := HF.out.2.2.2.1.2 ⟨_, hxk.out, hxe⟩
              subst hise
              have hbe : (x == key) = true := by simpa using hxe
              have HXE := Lib.hid hxe
              clear hxe
              go_wp2
              go_ret
              exact ⟨rfl, HEX.out.alloc _⟩
            · have hise : is = false := by
                cases is with
                | false => rfl
                | true => obtain ⟨z, hz, he⟩ := HF.out.2.2.2.1.1 rfl; rw [hxk.out] at hz; injection hz with hz; subst hz; exact absurd he hxe
              subst hise
              have hbe : (x == key) = false := by simpa using hxe
              have HXE := Lib.hid hxe
              clear hxe
              go_wp2
              go_ret
              exact ⟨rfl, HEX.out.alloc _⟩
        · obtain rfl : t = i := by omega
          obtain rfl : t = n := by omega
          have hise : is = false := by
            cases is with
            | false => rfl
            | true => obtain ⟨z, hz, he⟩ := HF.out.2.2.2.1.1 rfl; rw [List.getElem?_eq_none (by rw [HR3.out.its_len]; omega)] at hz; cases hz
          subst hise
          have hd : decide (t < t) = false := by simp
          by_cases hkp : 0 < k
          · have hnp : 0 < t := HF.out.2.2.2.2.2.1 hkp
            go_wp2
            go_ret
            exact ⟨rfl, HEX.out.alloc _⟩
          · have hnp : t = 0 := by
              rcases Nat.eq_zero_or_pos t with h | h
              · exact h
              · exact absurd (HF.out.2.2.2.2.2.2 h) hkp
            subst hnp
            obtain rfl : k = 0 := by omega
            go_wp2
            go_ret
            exact ⟨rfl, HEX.out.alloc _⟩
end Go.Proofs.Ytjmbdaofnnmldaa
