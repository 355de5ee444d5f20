/- The contract of spec.Compacted, and of spec.Joined of one, two and three lists. No statement of the seat is proved here. -/
import Derived.Test.YtaimljagflnfpaaCompactInt
import Derived.Test.YtaimljagflnfpaaScript
import Derived.Test.YtaimljagflnfpaaFnCompactJoined
namespace Go.Proofs.Ytaimljagflnfpaa
open Go.RowKit

theorem lists_three (w : World) (Bk : Nat) (hB : w.heap.size = Bk) (A B D : Option Addr) (n c m d p q : Nat) (l vs us : List Int) (h1 : Row w 1 A n c (ints l)) (h2 : Row w 1 B m d (ints vs)) (h3 : Row w 1 D p q (ints us)) :
    Lists (w.alloc (.cells #[.slice A n c, .slice B m d, .slice D p q] 22)) (some ⟨Bk, 0, none⟩) 3 3 [l, vs, us] := by
  refine ⟨[.slice A n c, .slice B m d, .slice D p q], Row.fresh' w _ 1 #[.slice A n c, .slice B m d, .slice D p q] 3 Bk hB rfl (by unfold maxLen; omega), rfl, fun i xs hx => ?_⟩
  rcases i with _ | _ | _ | i
  · simp at hx; subst hx; exact ⟨A, n, c, rfl, h1.alloc _⟩
  · simp at hx; subst hx; exact ⟨B, m, d, rfl, h2.alloc _⟩
  · simp at hx; subst hx; exact ⟨D, p, q, rfl, h3.alloc _⟩
  · simp at hx
theorem joined_to_own (A : Option Addr) (n c : Nat) (L : List (List Int)) (N : Nat) (M : List Int) (hJ : L.flatten = M ∧ M.length = N) (w : World) (hx : Lists w A n c L) (hs : N ≤ 1099511627776) :
    Calls Try.prog 17 #[.slice A n c] w fun e w' => ∃ C k, e = .returned (.slice C N k) ∧ w'.ownsRow w.heap.size 3 1 (.slice C N k) N (ints M) ∧ Ext w w' := by
  obtain ⟨rfl, rfl⟩ := hJ
  exact joined_own A n c L w hx hs
theorem joined_three (A B D : Option Addr) (n c m d p q : Nat) (l vs us M : List Int) (N : Nat) (w : World) (Bk : Nat) (hB : w.heap.size = Bk) (h1 : Row w 1 A n c (ints l)) (h2 : Row w 1 B m d (ints vs)) (h3 : Row w 1 D p q (ints us)) (hJ : l ++ vs ++ us = M) (hN : M.length = N) (hs : N ≤ 1099511627776) :
    Calls Try.prog 17 #[.slice (some ⟨Bk, 0, none⟩) 3 3] (w.alloc (.cells #[.slice A n c, .slice B m d, .slice D p q] 22)) fun e w' => ∃ C k, e = .returned (.slice C N k) ∧ w'.ownsRow w.heap.size 3 1 (.slice C N k) N (ints M) ∧ Ext w w' := by
  refine (joined_to_own (some ⟨Bk, 0, none⟩) 3 3 [l, vs, us] N M ⟨by simp [← hJ], hN⟩ _ (lists_three w Bk hB A B D n c m d p q l vs us h1 h2 h3) hs).mono fun e w' ⟨C, k, h3, h4, h5⟩ => ⟨C, k, h3, own_up h4 ((Ext.refl w).alloc _).size, ((Ext.refl w).alloc _).trans h5⟩
theorem joined_two_own (A B : Option Addr) (n m c d : Nat) (l vs M : List Int) (N : Nat) (w : World) (Bk : Nat) (hB : w.heap.size = Bk) (h1 : Row w 1 A n c (ints l)) (h2 : Row w 1 B m d (ints vs)) (hJ : l ++ vs = M) (hN : M.length = N) (hs : N ≤ 1099511627776) :
    Calls Try.prog 17 #[.slice (some ⟨Bk, 0, none⟩) 2 2] (w.alloc (.cells #[.slice A n c, .slice B m d] 22)) fun e w' => ∃ C k, e = .returned (.slice C N k) ∧ w'.ownsRow w.heap.size 3 1 (.slice C N k) N (ints M) ∧ Ext w w' := by
  subst hB
  refine (joined_to_own (some ⟨w.heap.size, 0, none⟩) 2 2 [l, vs] N M ⟨by simp [hJ], hN⟩ _ (lists_two w A B n c m d l vs h1 h2) hs).mono fun e w' ⟨C, k, h3, h4, h5⟩ => ⟨C, k, h3, own_up h4 ((Ext.refl w).alloc _).size, ((Ext.refl w).alloc _).trans h5⟩
set_option maxRecDepth 100000 in
set_option maxHeartbeats 1600000 in
theorem compacted_ok (A : Option Addr) (n c : Nat) (l : List Int) (w : World) (hx : Row w 1 A n c (ints l)) (hn : n ≤ 1099511627776) :
    Calls Try.prog 26 #[.slice A n c] w fun e w' => ∃ C q, e = .returned (.slice C (compO none l).length q) ∧ w'.ownsRow w.heap.size 3 1 (.slice C (compO none l).length q) (compO none l).length (ints (compO none l)) ∧ Ext w w' := by
  have HX := Lib.hid hx
  clear hx
  go_enter Try.func26, Try.ntmps26
  go_wp2
  go_loopg [3, 9] n (fun kx v i wr => ∃ k : Nat, k + kx = n ∧ i = .int .i64 (k : Int) ∧ Hid (wr.ownsRow w.heap.size 3 1 v (compO none (l.take k)).length (ints (compO none (l.take k)))) ∧ Hid (Ext w wr))
  case atStart => exact ⟨0, by omega, rfl, own_lit0 w _ _, (Ext.refl w).alloc _⟩
  case round =>
    obtain ⟨k, hk, rfl, HO, HE⟩ := hrel
    by_cases hlt : k < n
    · obtain ⟨b, o, x, rfl, hxk, hc1⟩ := (HX.out.ext HE.out).int_at (k := k) hlt
      have hml1 : 1 ≤ maxLen := by unfold maxLen; omega
      have hcl : (compO none (l.take k)).length ≤ k := by
        have h1 := compO_length none (l.take k)
        rw [List.length_take] at h1; omega
      have HBY : Hid (((compO none (l.take k)).length + 1) * 8 ≤ 140737488355328) := Lib.hid (by omega)
      have HMX : Hid ((compO none (l.take k)).length + 1 ≤ maxLen) := Lib.hid (by unfold maxLen; omega)
      have hz := HE.out.size
      clear hcl
      by_cases hk0 : k = 0
      · have HN : Hid (compO none (l.take (k + 1)) = compO none (l.take k) ++ [x]) := Lib.hid (by
          rw [take_snoc hxk.out, compO_snoc, hk0]; simp [lastO])
        have hkb : ((k : Int) == 0) = true := by simp; omega
        have HK0 := Lib.hid hk0
        clear hk0
        go_wp2_with (at_builtin; refine wpList_app elInt rfl _ _ rfl w.heap.size u3 _ _ rfl (HO.out.alloc _) _ 1 1 [.int .i64 x] rfl (Row.fresh _ 3 1 #[.int .i64 x] 1 rfl hml1) (ints_one [x]) HBY.out HMX.out (by simp; omega) ?_; intro v' w1 HO1 HG1 _)
        go_roundg (gk - 1)
        case measure => omega
        case rel => exact ⟨k + 1, by omega, by go_num, by rw [HN.out, List.length_append, ints_append]; exact HO1.out, (HE.out.alloc _).grown HG1.out fun g hg => (HO.out.lt g hg).1⟩
      · have hkb : ((k : Int) == 0) = false := by simp; omega
        obtain ⟨y, hyk⟩ : ∃ y, l[k - 1]? = some y := ⟨_, List.getElem?_eq_getElem (by rw [HX.out.ints_len]; omega)⟩
        obtain ⟨b9, o9, y9, e9, hy9, hc9⟩ := (HX.out.ext HE.out).int_at (k := k - 1) (by omega)
        injection e9 with e9
        injection e9 with e9a e9b
        subst e9a e9b
        obtain rfl : y9 = y := by have h := hy9.out; rw [hyk] at h; injection h with h; exact h.symm
        have HC := Lib.hid (compO_take hxk.out hyk (by omega))
        have sw : IntKind.i64.wrap ((k : Int) - 1) = (k : Int) - 1 := IntWalk.i64_in _ (by omega)
        have sn : (0 : Int) ≤ (k : Int) - 1 := by omega
        have sl : (k : Int) - 1 < (n : Int) := by omega
        have st : ((k : Int) - 1).toNat = k - 1 := by omega
        have sm : k - 1 < n := by omega
        clear hyk
        by_cases hxy : y9 = x
        · subst hxy
          have HN : Hid (compO none (l.take (k + 1)) = compO none (l.take k)) := Lib.hid (by rw [HC.out, if_pos rfl, List.append_nil])
          go_wp2
          go_roundg (gk - 1)
          case measure => omega
          case rel => exact ⟨k + 1, by omega, by go_num, by rw [HN.out]; exact HO.out, HE.out⟩
        · have hne : (y9 != x) = true := by simpa using hxy
          have hne' : (y9 == x) = false := by simpa using hxy
          have HN : Hid (compO none (l.take (k + 1)) = compO none (l.take k) ++ [x]) := Lib.hid (by rw [HC.out, if_neg (fun h => hxy h.symm)])
          go_wp2_with (at_builtin; refine wpList_app elInt rfl _ _ rfl w.heap.size u3 _ _ rfl (HO.out.alloc _) _ 1 1 [.int .i64 x] rfl (Row.fresh _ 3 1 #[.int .i64 x] 1 rfl hml1) (ints_one [x]) HBY.out HMX.out (by simp; omega) ?_; intro v' w1 HO1 HG1 _)
          go_roundg (gk - 1)
          case measure => omega
          case rel => exact ⟨k + 1, by omega, by go_num, by rw [HN.out, List.length_append, ints_append]; exact HO1.out, (HE.out.alloc _).grown HG1.out fun g hg => (HO.out.lt g hg).1⟩
    · obtain rfl : k = n := by omega
      have e1 : l.take k = l := List.take_of_length_le (by rw [HX.out.ints_len]; exact Nat.le_refl _)
      rw [e1] at HO
      obtain ⟨C, q, rfl, -⟩ := own_form HO.out
      go_wp2
      go_ret
      exact ⟨C, q, rfl, HO.out, HE.out⟩
end Go.Proofs.Ytaimljagflnfpaa
