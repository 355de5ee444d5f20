/- The contracts of laws.same, at equal lists, and of laws.last: the list behind a script. No statement of the seat is proved here. -/
import Derived.Test.YtaimljagflnfpaaEditsAll
namespace Go.Proofs.Ytaimljagflnfpaa
open Go.RowKit

set_option maxRecDepth 100000 in
set_option maxHeartbeats 800000 in
theorem same_quiet (A B : Option Addr) (n m c d : Nat) (xs : List Int) (w : World) (hx : Row w 1 A n c (ints xs)) (hy : Row w 1 B m d (ints xs)) :
    Calls Try.prog 16 #[.slice A n c, .slice B m d] w fun e w' => e = .returned (.bool true) ∧ ∃ m, w' = w.drewN m := by
  have hnl := hx.lim
  unfold maxLen at hnl
  obtain rfl : m = n := by rw [← hx.ints_len, ← hy.ints_len]
  have HX := Lib.hid hx
  have HY := Lib.hid hy
  clear hx hy
  go_enter Try.func16, Try.ntmps16
  go_wp2
  go_loopw [13] (fun i wr => ∃ k : Nat, k ≤ m ∧ i = .int .i64 (k : Int) ∧ Hid (Ext w wr) ∧ Hid (∃ N, wr = w.drewN N)) (fun i _ => m - (intOf i).toNat)
  case atStart => exact ⟨0, Nat.zero_le _, rfl, Ext.refl w, Lib.hid ⟨0, rfl⟩⟩
  case round =>
    obtain ⟨k, hk, rfl, HE, HD⟩ := hrel
    by_cases hlt : k < m
    · obtain ⟨b1, o1, x1, rfl, hx1, hc1⟩ := (HX.out.ext HE.out).int_at (k := k) hlt
      obtain ⟨b2, o2, x2, rfl, hx2, hc2⟩ := (HY.out.ext HE.out).int_at (k := k) hlt
      obtain rfl : x1 = x2 := by have h1 := hx1.out; rw [hx2.out] at h1; injection h1 with h1; exact h1.symm
      go_wp2
      go_quiet (fail)
      go_wp2
      go_roundw
      case rel => exact ⟨k + 1, by omega, by go_num, HE.out.drewN _, let ⟨N, hN⟩ := HD.out; Lib.hid ⟨_, by rw [hN, World.drewN_drewN]⟩⟩
      case measure => simp [intOf]; omega
    · go_wp2
      go_ret
      exact ⟨rfl, HD.out⟩

theorem same_true (A B : Option Addr) (n m c d : Nat) (xs : List Int) (w : World) (hx : Row w 1 A n c (ints xs)) (hy : Row w 1 B m d (ints xs)) :
    Calls Try.prog 16 #[.slice A n c, .slice B m d] w fun e w' => e = .returned (.bool true) ∧ Ext w w' :=
  (same_quiet A B n m c d xs w hx hy).mono fun _ _ ⟨h, k, hk⟩ => ⟨h, by rw [hk]; exact (Ext.refl w).drewN k⟩

set_option maxRecDepth 100000 in
set_option maxHeartbeats 800000 in
theorem last_ok (A B : Option Addr) (n m c d : Nat) (xs : List Int) (E : List Edt) (w : World) (hx : Row w 1 A n c (ints xs)) (ht : Edts w B m d E) (hn : n + evals E ≤ 17592186043904) (hm : m ≤ 274877906944) :
    Calls Try.prog 18 #[.slice A n c, .slice B m d] w fun e w' => ∃ C q, e = .returned (.tuple #[.slice C (eend xs E).length q, .bool true]) ∧ Row w' 1 C (eend xs E).length q (ints (eend xs E)) ∧ Ext w w' := by
  have hc := editsAll_ok A B n m c d xs 0 0 E w hx ht (by decide) hn hm
  have HC := Lib.hid hc
  have HX := Lib.hid hx
  have HXN := Lib.hid hx.ints_len
  have HEL := Lib.hid (edts_len ht)
  have hcl := hx.lim
  have hml := ht.lim
  unfold maxLen at hcl hml
  clear hx ht hc
  obtain ⟨N, hN⟩ : ∃ N, N = (eend xs E).length := ⟨_, rfl⟩
  obtain ⟨ys, hys⟩ : ∃ ys, ys = eend xs E := ⟨_, rfl⟩
  rw [← hN, ← hys]
  have HN := Lib.hid hN
  have HYS := Lib.hid hys
  clear hN hys
  go_enter Try.func18, Try.ntmps18
  go_wp2_with fail
  refine HC.out.mono ?_
  rintro e w1 ⟨C, q, D, rfl, k1, k2, k3, k4⟩
  have HR := Lib.hid k1
  have HM := Lib.hid k2
  have HE := Lib.hid k4
  clear k1 k2 k3 k4
  by_cases h0 : m = 0
  · subst h0
    go_wp2
    go_ret2
    have hE0 : E = [] := List.eq_nil_of_length_eq_zero HEL.out
    have e1 : ys = xs := by rw [HYS.out, hE0]; rfl
    have e2 : N = n := by rw [HN.out, hE0]; exact HXN.out
    subst e1 e2
    exact ⟨A, c, rfl, HX.out.ext HE.out, HE.out⟩
  · have hm0 : ((m : Int) == 0) = false := by simpa using h0
    obtain ⟨b, o, p, l, s, B1, q1, rfl, hd, hc1, hc2, hc3, hrow⟩ := erows_at HR.out (k := m - 1) (by omega)
    have hne : E ≠ [] := fun h => h0 (by rw [← HEL.out, h]; rfl)
    obtain ⟨b1, hb1⟩ := erows_last xs E hne
    have hlm : l = ys := by
      have h1 := congrArg (fun t => t[m - 1]?) HM.out
      simp only [List.getElem?_map, hd.out, Option.map_some] at h1
      rw [HEL.out] at hb1
      rw [hb1] at h1
      injection h1 with h1
      injection h1 with _ h1
      rw [h1, HYS.out]
    subst hlm
    have hNl : N = l.length := by rw [HN.out, HYS.out]
    subst hNl
    have sw : (0 : Int) ≤ (m : Int) - 1 := by omega
    have st : ((m : Int) - 1).toNat = m - 1 := by omega
    have sl : (m : Int) - 1 < (m : Int) := by omega
    have sm : m - 1 < m := by omega
    go_wp2
    go_ret2
    exact ⟨B1, q1, rfl, hrow.out, HE.out⟩
end Go.Proofs.Ytaimljagflnfpaa
