/- laws.FnSearchBoth returns true, for every input whose slice is at most 2^30 long. -/
import Derived.Test.YtjmbdaofnnmldaaSearch
import Derived.Test.YtjmbdaofnnmldaaSortedIts
namespace Go.Proofs.Ytjmbdaofnnmldaa
open Go.RowKit

theorem found_le {S : List (Int × Int)} {key : Int} {n a b ka kb : Nat} {ia ib : Bool} (hl : S.length = n) (ha : SFound S key n a ia ka) (hb : SFound S (key + 1) n b ib kb) : a ≤ b := by
  rcases Nat.lt_or_ge b a with h | h
  · have h1 := ha.1
    have hx : S[b]? = some S[b] := List.getElem?_eq_getElem (by omega)
    have := ha.2.1 b _ h hx
    have := hb.2.2.1 b _ (Nat.le_refl _) hx
    omega
  · exact h
theorem countP_zero_of {S : List (Int × Int)} {p : Int × Int → Bool} (h : ∀ (t : Nat) x, S[t]? = some x → p x = false) : S.countP p = 0 := by
  rw [List.countP_eq_zero]
  intro x hx
  obtain ⟨t, ht⟩ := List.mem_iff_getElem?.1 hx
  rw [h t x ht]
  simp
theorem countP_full_of {S : List (Int × Int)} {p : Int × Int → Bool} (h : ∀ (t : Nat) x, S[t]? = some x → p x = true) : S.countP p = S.length := by
  rw [List.countP_eq_length]
  intro x hx
  obtain ⟨t, ht⟩ := List.mem_iff_getElem?.1 hx
  exact h t x ht
theorem both_count {S : List (Int × Int)} {key : Int} {n a b ka kb : Nat} {ia ib : Bool} (hl : S.length = n) (ha : SFound S key n a ia ka) (hb : SFound S (key + 1) n b ib kb) : S.countP (fun x => x.1 == key) + a = b := by
  have hab := found_le hl ha hb
  have hbn := hb.1
  have e : S = S.take a ++ ((S.drop a).take (b - a) ++ S.drop b) := by
    have h1 : (S.drop a).take (b - a) ++ S.drop b = S.drop a := by
      have h2 := List.take_append_drop (b - a) (S.drop a)
      rw [List.drop_drop, show a + (b - a) = b by omega] at h2
      exact h2
    rw [h1, List.take_append_drop]
  have c1 : (S.take a).countP (fun x => x.1 == key) = 0 := countP_zero_of fun t x hx => by
    rw [List.getElem?_take] at hx
    split at hx
    · rename_i ht
      have := ha.2.1 t x ht hx
      simp; omega
    · cases hx
  have c3 : (S.drop b).countP (fun x => x.1 == key) = 0 := countP_zero_of fun t x hx => by
    rw [List.getElem?_drop] at hx
    have := hb.2.2.1 (b + t) x (by omega) hx
    simp; omega
  have c2 : ((S.drop a).take (b - a)).countP (fun x => x.1 == key) = b - a := by
    rw [countP_full_of, List.length_take, List.length_drop]
    · omega
    · intro t x hx
      rw [List.getElem?_take] at hx
      split at hx
      · rename_i ht
        rw [List.getElem?_drop] at hx
        have := ha.2.2.1 (a + t) x (by omega) hx
        have := hb.2.1 (a + t) x (by omega) hx
        simp; omega
      · cases hx
  rw [e, List.countP_append, List.countP_append, c1, c2, c3]
  omega
theorem both_is {S : List (Int × Int)} {key : Int} {n a b ka kb : Nat} {ia ib : Bool} (hl : S.length = n) (ha : SFound S key n a ia ka) (hb : SFound S (key + 1) n b ib kb) : ia = true ↔ a < b := by
  have hbn := hb.1
  constructor
  · intro h
    obtain ⟨x, hx, e⟩ := ha.2.2.2.1.1 h
    rcases Nat.lt_or_ge a b with h1 | h1
    · exact h1
    · have := hb.2.2.1 a x h1 hx; omega
  · intro h
    have hx : S[a]? = some S[a] := List.getElem?_eq_getElem (by omega)
    have := ha.2.2.1 a _ (Nat.le_refl _) hx
    have := hb.2.1 a _ h hx
    exact ha.2.2.2.1.2 ⟨_, hx, by omega⟩
theorem take_countP {S : List (Int × Int)} {t : Nat} {x y : Int} (key : Int) (hx : S[t]? = some (x, y)) : (S.take (t + 1)).countP (fun z => z.1 == key) = (S.take t).countP (fun z => z.1 == key) + (if x = key then 1 else 0) := by
  rw [take_snoc hx, List.countP_append]
  by_cases h : x = key <;> simp [h]

set_option maxRecDepth 100000 in
set_option maxHeartbeats 1600000 in
theorem fnSearchBoth_ok (A : Option Addr) (n c : Nat) (xs : List Int) (key : Int) (w : World) (hx : Row w 1 A n c (ints xs)) (hs : n ≤ 1073741824) (hlo : -9223372036854775808 ≤ key) (hhi : key ≤ 9223372036854775807) :
    Calls Try.prog 4 #[.slice A n c, .int .i64 key] w fun e w' => e = .returned (.bool true) ∧ Ext w w' := by
  have HX := Lib.hid hx
  clear hx
  by_cases hmax : key = 9223372036854775807
  · subst hmax
    go_enter Try.func4, Try.ntmps4
    go_wp2
    go_ret
    exact ⟨rfl, Ext.refl _⟩
  · have hne : (key == 9223372036854775807) = false := by simpa using hmax
    have hk1 : key + 1 ≤ 9223372036854775807 := by omega
    clear hmax
    go_enter Try.func4, Try.ntmps4
    go_wp2_with fail
    refine (items_ok _ _ _ _ _ _ _ _ _ HX.out HX.out (by omega)).mono ?_
    rw [Nat.min_self]
    rintro e w1 ⟨C1, k1, rfl, hr1, he1⟩
    have HR1 := Lib.hid hr1
    have HE1 := Lib.hid he1
    clear hr1 he1
    go_wp2_with fail
    refine (sorted_ok _ _ _ _ _ HR1.out (by omega)).mono ?_
    rintro e w2 ⟨C2, k2, rfl, hr2, he2⟩
    have HO := Lib.hid (sortP_ord (xs.zip xs))
    generalize sortP (xs.zip xs) = S at hr2 HO
    have HR2 := Lib.hid hr2
    have HE2 := Lib.hid (HE1.out.trans he2)
    have HL := Lib.hid hr2.its_len
    clear hr2 he2
    go_wp2
    go_loopg [6, 19] n (fun kx s6 s19 wr => ∃ t cnt : Nat, s6 = .int .i64 (cnt : Int) ∧ s19 = .int .i64 (t : Int) ∧ Hid ((S.take t).countP (fun x => x.1 == key) = cnt) ∧ cnt ≤ t ∧ t + kx = n ∧ Hid (Ext w2 wr))
    case atStart => exact ⟨0, 0, rfl, rfl, Lib.hid (by simp), Nat.le_refl _, by omega, Ext.refl _⟩
    case round =>
      obtain ⟨t, cnt, rfl, rfl, HC, hct, htk, HW⟩ := hrel
      by_cases htn : t < n
      · obtain ⟨b, o, x, y, rfl, hxk, hc1, hc2⟩ := (HR2.out.ext HW.out).item_at (k := t) htn
        have HT := Lib.hid (take_countP key hxk.out)
        by_cases hxe : x = key
        · rw [if_pos hxe] at HT
          have hbe : (x == key) = true := by simpa using hxe
          clear hxe
          go_wp2
          go_roundg (gk - 1)
          case measure => omega
          case rel => exact ⟨t + 1, cnt + 1, by go_num, by go_num, Lib.hid (by rw [HT.out, HC.out]), by omega, by omega, HW.out.alloc _⟩
        · rw [if_neg hxe] at HT
          have hbe : (x == key) = false := by simpa using hxe
          clear hxe
          go_wp2
          go_roundg (gk - 1)
          case measure => omega
          case rel => exact ⟨t + 1, cnt, rfl, by go_num, Lib.hid (by rw [HT.out, HC.out, Nat.add_zero]), by omega, by omega, HW.out.alloc _⟩
      · have hcn := HC.out
        rw [List.take_of_length_le (by rw [HL.out]; omega)] at hcn
        have HCN := Lib.hid hcn
        clear hcn
        go_wp2_with fail
        refine (search_ok _ _ _ S key _ (HR2.out.ext HW.out) HO.out hs).mono ?_
        rintro e w3 ⟨i, is, k, B, q, rfl, hf, he3⟩
        have HF := Lib.hid hf
        have HE3 := Lib.hid (HW.out.trans he3)
        clear hf he3
        go_wp2_with fail
        refine (search_ok _ _ _ S (key + 1) _ (HR2.out.ext HE3.out) HO.out hs).mono ?_
        rintro e w4 ⟨i2, is2, kk2, B2, q2, rfl, hf2, he4⟩
        have HF2 := Lib.hid hf2
        have HE4 := Lib.hid ((HE2.out.trans HE3.out).trans he4)
        clear hf2 he4
        have hcnt := both_count HL.out HF.out HF2.out
        rw [HCN.out] at hcnt
        have hib := both_is HL.out HF.out HF2.out
        have h1 := HF.out.1
        have h2 := HF2.out.1
        have hk := HF.out.2.2.2.2.2
        obtain rfl : i2 = cnt + i := by omega
        have HIB := Lib.hid hib
        have HK := Lib.hid hk
        clear hib hk hcnt
        have hsub : ((cnt + i : Nat) : Int) - (i : Int) = (cnt : Int) := by omega
        by_cases hc0 : 0 < cnt
        · have hise : is = true := HIB.out.2 (by omega)
          subst hise
          have hkp : 0 < k := HK.out.2 (by omega)
          have hnp : 0 < n := by omega
          go_wp2
          go_ret
          exact ⟨rfl, (HE4.out.alloc _).alloc _⟩
        · obtain rfl : cnt = 0 := by omega
          have hise : is = false := by
            cases is with
            | false => rfl
            | true => have := HIB.out.1 rfl; omega
          subst hise
          by_cases hkp : 0 < k
          · have hnp : 0 < n := HK.out.1 hkp
            go_wp2
            go_ret
            exact ⟨rfl, (HE4.out.alloc _).alloc _⟩
          · have hnp : n = 0 := by
              rcases Nat.eq_zero_or_pos n with h | h
              · exact h
              · exact absurd (HK.out.2 h) hkp
            subst hnp
            obtain rfl : k = 0 := by omega
            go_wp2
            go_ret
            exact ⟨rfl, (HE4.out.alloc _).alloc _⟩
end Go.Proofs.Ytjmbdaofnnmldaa
