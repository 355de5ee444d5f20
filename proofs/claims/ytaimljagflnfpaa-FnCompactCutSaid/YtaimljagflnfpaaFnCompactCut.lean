/- The walk of laws.FnCompactCut: it returns true. The statement itself stands in the next file. -/
import Derived.Test.YtaimljagflnfpaaFnCompactJoined
namespace Go.Proofs.Ytaimljagflnfpaa
open Go.RowKit

theorem run_maxz (P : Program) (w : World) (ts : Array TypeId) (t : TypeId) (a Z : Int) (h : Z = max a 0) : (Builtin.max_ ts t #[.int .i64 a, .int .i64 0]).run P w = .ok (.int .i64 Z) w := run_max0 P w ts t a Z h
theorem run_minz (P : Program) (w : World) (ts : Array TypeId) (t : TypeId) (a b Z : Int) (h : Z = min a b) : (Builtin.min_ ts t #[.int .i64 a, .int .i64 b]).run P w = .ok (.int .i64 Z) w := by
  have e : (if b < a then b else a) = Z := by split <;> omega
  simp [Builtin.min_, Builtin.min2, e]

theorem compO_mid (p : Option Int) (a l m : List Int) : compO p (a ++ compO none l ++ m) = compO p (a ++ (l ++ m)) := by
  rw [List.append_assoc, compO_append, compO_parts, ← compO_append]

set_option maxRecDepth 100000 in
set_option maxHeartbeats 1600000 in
theorem fnCompactCut_ok (A B : Option Addr) (n m c d : Nat) (xs ys : List Int) (w : World) (hx : Row w 1 A n c (ints xs)) (hy : Row w 1 B m d (ints ys)) (hn : n ≤ 17592186043904) (hm : m ≤ 17592186043904) :
    Calls Try.prog 3 #[.slice A n c, .slice B m d] w fun e w' => e = .returned (.bool true) ∧ Ext w w' := by
  obtain ⟨z, hz⟩ : ∃ z, compO none xs = z := ⟨_, rfl⟩
  obtain ⟨N, hN⟩ : ∃ N, z.length = N := ⟨_, rfl⟩
  have HX := Lib.hid hx
  have HY := Lib.hid hy
  have HZ := Lib.hid hz
  have HN := Lib.hid hN
  clear hx hy hz hN
  go_enter Try.func3, Try.ntmps3
  go_wp2_with fail
  refine (compact_ok A n c xs z N w HX.out (by omega) HZ.out HN.out).mono ?_
  rintro e w1 ⟨C1, q1, rfl, k1, k2⟩
  have HR1 := Lib.hid k1
  have HW1 := Lib.hid k2
  clear k1 k2
  go_wp2
  go_loopg [6, 7, 8, 9] (m + 1) (fun kx s v r i wr => ∃ (j nr cr : Nat) (Ar : Option Addr) (all rest : List Int), j + kx = m + 1 ∧ s = .bool true ∧ i = .int .i64 (j : Int) ∧ r = .slice Ar nr cr ∧ Hid (wr.ownsRow w1.heap.size 3 1 v all.length (ints all)) ∧ Hid (Row w1 1 Ar nr cr (ints rest)) ∧ Hid (compO none (all ++ rest) = z) ∧ all.length + nr ≤ n ∧ Hid (j = m + 1 → rest = []) ∧ Hid (Ext w1 wr))
  case atStart => exact ⟨0, n, c, A, [], xs, by omega, rfl, rfl, rfl, own_lit0 w1 _ _, HX.out.ext HW1.out, HZ, by simp, fun h => by omega, (Ext.refl w1).alloc _⟩
  case round =>
    obtain ⟨j, nr, cr, Ar, all, rest, hj, rfl, rfl, rfl, HO, HR, HC, hal, HL, HE⟩ := hrel
    have hcr := HR.out.cap
    have hnr := HR.out.le
    unfold maxLen at hcr
    by_cases hjt : j < m
    · have hjI : (j : Int) ≤ (m : Int) := by omega
      obtain ⟨b, o, x, rfl, hxj, hc1⟩ := (HY.out.ext (HW1.out.trans HE.out)).int_at (k := j) hjt
      obtain ⟨M, hM⟩ : ∃ M : Int, M = max x 0 := ⟨_, rfl⟩
      obtain ⟨K, hK⟩ : ∃ K : Nat, (K : Int) = min M (nr : Int) := ⟨(min M (nr : Int)).toNat, by omega⟩
      have hmax : ∀ (w : World) (ts : Array TypeId) (t : TypeId), (Builtin.max_ ts t #[.int .i64 x, .int .i64 0]).run Try.prog w = .ok (.int .i64 M) w := fun w ts t => run_maxz _ _ _ _ _ _ hM
      have hmin : ∀ (w : World) (ts : Array TypeId) (t : TypeId), (Builtin.min_ ts t #[.int .i64 M, .int .i64 (nr : Int)]).run Try.prog w = .ok (.int .i64 (K : Int)) w := fun w ts t => run_minz _ _ _ _ _ _ _ hK
      have hKn : K ≤ nr := by omega
      clear hM hK
      -- STEP
      have hhd := HR.out.head1 (k := K) hKn
      obtain ⟨P, hP⟩ : ∃ P, compO none (rest.take K) = P := ⟨_, rfl⟩
      obtain ⟨NP, hNP⟩ : ∃ NP, P.length = NP := ⟨_, rfl⟩
      have e1 : (ints rest).take K = ints (rest.take K) := by unfold ints; rw [List.map_take]
      have hrl := HR.out.ints_len
      have hPl : NP ≤ K := by
        have := compO_length none (rest.take K)
        rw [hP, hNP, List.length_take] at this
        omega
      rw [e1] at hhd
      have htl := HR.out.tail (k := K) hKn
      rw [Nat.mul_one] at htl
      have e2 : (ints rest).drop K = ints (rest.drop K) := by unfold ints; rw [List.map_drop]
      rw [e2] at htl
      have HHD := Lib.hid hhd
      have HTL := Lib.hid htl
      have HP := Lib.hid hP
      have HNP := Lib.hid hNP
      have HRL := Lib.hid hrl
      clear hhd htl hP hNP e1 e2 hrl
      go_wp2_with fail
      refine (compact_ok Ar K cr (rest.take K) P NP _ (HHD.out.ext HE.out) (by omega) HP.out HNP.out).mono ?_
      rintro e w3 ⟨C3, q3, rfl, k1, k2⟩
      have HR3 := Lib.hid k1
      have HE3 := Lib.hid k2
      clear k1 k2
      have hby : (all.length + NP) * 8 ≤ 140737488355328 := by omega
      have hmx : all.length + NP ≤ maxLen := by unfold maxLen; omega
      have hzz := (HE.out.trans HE3.out).size
      go_wp2_with (with_reducible refine stand_at 55 ?_)
      refine Stand.mk (wpList_apps elInt rfl _ _ rfl w1.heap.size u7 all.length (ints all) rfl (own_ext HO.out HE3.out) C3 NP q3 (ints P) rfl HR3.out (ints_one _) hby hmx hzz ?_)
      intro A8 c8 w4 HO8 HG8 HL8
      have HEE : Hid (Ext w1 w4) := Lib.hid ((HE.out.trans HE3.out).grown HG8.out fun g hg => (HO.out.lt g hg).1)
      have hne : ∀ b o, Ar = some ⟨b, o, none⟩ → True := fun _ _ _ => trivial
      clear hby hmx hne
      by_cases hck : cr = K
      · have hckT : (cr = K) = True := by simpa using hck
        have HCK := Lib.hid hck
        clear hck
        go_wp2
        go_roundg (gk - 1)
        case measure => omega
        case rel =>
          refine ⟨j + 1, nr - K, cr - K, Ar, all ++ P, rest.drop K, by omega, rfl, by go_num, rfl, ?_, ?_, ?_, ?_, fun h => absurd h (by omega), HEE.out⟩
          · rw [List.length_append, HNP.out, ints_append]; exact HO8.out
          · have h := HTL.out
            rw [if_pos HCK.out] at h
            exact h
          · exact Lib.hid (by rw [← HP.out, compO_mid, List.take_append_drop]; exact HC.out)
          · rw [List.length_append, HNP.out]; omega
      · go_wp2
        go_roundg (gk - 1)
        case measure => omega
        case rel =>
          refine ⟨j + 1, nr - K, cr - K, _, all ++ P, rest.drop K, by omega, rfl, by go_num, rfl, ?_, ?_, ?_, ?_, fun h => absurd h (by omega), HEE.out⟩
          · rw [List.length_append, HNP.out, ints_append]; exact HO8.out
          · have h := HTL.out
            rw [if_neg hck] at h
            exact h
          · exact Lib.hid (by rw [← HP.out, compO_mid, List.take_append_drop]; exact HC.out)
          · rw [List.length_append, HNP.out]; omega
    · by_cases hjm : j = m
      · subst hjm
        have hjI : (j : Int) ≤ (j : Int) := by omega
        have hrl0 := HR.out.ints_len
        have HRL0 := Lib.hid hrl0
        clear hrl0
        -- STEP
        have hhd := HR.out.head1 (k := nr) (Nat.le_refl _)
        obtain ⟨P, hP⟩ : ∃ P, compO none (rest.take nr) = P := ⟨_, rfl⟩
        obtain ⟨NP, hNP⟩ : ∃ NP, P.length = NP := ⟨_, rfl⟩
        have e1 : (ints rest).take nr = ints (rest.take nr) := by unfold ints; rw [List.map_take]
        have hrl := HR.out.ints_len
        have hPl : NP ≤ nr := by
          have := compO_length none (rest.take nr)
          rw [hP, hNP, List.length_take] at this
          omega
        rw [e1] at hhd
        have htl := HR.out.tail (k := nr) (Nat.le_refl _)
        rw [Nat.mul_one] at htl
        have e2 : (ints rest).drop nr = ints (rest.drop nr) := by unfold ints; rw [List.map_drop]
        rw [e2] at htl
        have HHD := Lib.hid hhd
        have HTL := Lib.hid htl
        have HP := Lib.hid hP
        have HNP := Lib.hid hNP
        have HRL := Lib.hid hrl
        clear hhd htl hP hNP e1 e2 hrl
        go_wp2_with fail
        refine (compact_ok Ar nr cr (rest.take nr) P NP _ (HHD.out.ext HE.out) (by omega) HP.out HNP.out).mono ?_
        rintro e w3 ⟨C3, q3, rfl, k1, k2⟩
        have HR3 := Lib.hid k1
        have HE3 := Lib.hid k2
        clear k1 k2
        have hby : (all.length + NP) * 8 ≤ 140737488355328 := by omega
        have hmx : all.length + NP ≤ maxLen := by unfold maxLen; omega
        have hzz := (HE.out.trans HE3.out).size
        go_wp2_with (with_reducible refine stand_at 55 ?_)
        refine Stand.mk (wpList_apps elInt rfl _ _ rfl w1.heap.size u7 all.length (ints all) rfl (own_ext HO.out HE3.out) C3 NP q3 (ints P) rfl HR3.out (ints_one _) hby hmx hzz ?_)
        intro A8 c8 w4 HO8 HG8 HL8
        have HEE : Hid (Ext w1 w4) := Lib.hid ((HE.out.trans HE3.out).grown HG8.out fun g hg => (HO.out.lt g hg).1)
        have hne : ∀ b o, Ar = some ⟨b, o, none⟩ → True := fun _ _ _ => trivial
        clear hby hmx hne
        by_cases hck : cr = nr
        · have hckT : (cr = nr) = True := by simpa using hck
          have HCK := Lib.hid hck
          clear hck
          go_wp2
          go_roundg (gk - 1)
          case measure => omega
          case rel =>
            refine ⟨j + 1, 0, cr - nr, Ar, all ++ P, rest.drop nr, by omega, rfl, by go_num, rfl, ?_, ?_, ?_, ?_, fun _ => List.drop_of_length_le (by rw [HRL0.out]; exact Nat.le_refl _), HEE.out⟩
            · rw [List.length_append, HNP.out, ints_append]; exact HO8.out
            · have h := HTL.out
              rw [if_pos HCK.out] at h
              rw [Nat.sub_self] at h; exact h
            · exact Lib.hid (by rw [← HP.out, compO_mid, List.take_append_drop]; exact HC.out)
            · rw [List.length_append, HNP.out]; omega
        · go_wp2
          go_roundg (gk - 1)
          case measure => omega
          case rel =>
            refine ⟨j + 1, 0, cr - nr, _, all ++ P, rest.drop nr, by omega, rfl, by go_num, rfl, ?_, ?_, ?_, ?_, fun _ => List.drop_of_length_le (by rw [HRL0.out]; exact Nat.le_refl _), HEE.out⟩
            · rw [List.length_append, HNP.out, ints_append]; exact HO8.out
            · have h := HTL.out
              rw [if_neg hck] at h
              rw [Nat.sub_self] at h; exact h
            · exact Lib.hid (by rw [← HP.out, compO_mid, List.take_append_drop]; exact HC.out)
            · rw [List.length_append, HNP.out]; omega
      · have hjI : ¬ (j : Int) ≤ (m : Int) := by omega
        have hr0 := HL.out (by omega)
        have HAZ : Hid (compO none all = z) := Lib.hid (by have h := HC.out; rw [hr0, List.append_nil] at h; exact h)
        obtain ⟨A7, c7, rfl, hr7⟩ := own_form HO.out
        have HR7 := Lib.hid hr7
        clear hr0 hr7
        go_wp2_with fail
        refine (compact_ok A7 all.length c7 all z N wr HR7.out (by omega) HAZ.out HN.out).mono ?_
        rintro e w3 ⟨C3, q3, rfl, k1, k2⟩
        have HR3 := Lib.hid k1
        have HE3 := Lib.hid k2
        clear k1 k2
        go_wp2_with fail
        refine (same_true C3 C1 N N q3 q1 z w3 HR3.out (HR1.out.ext (HE.out.trans HE3.out))).mono ?_
        rintro e w4 ⟨rfl, k1⟩
        have HE4 := Lib.hid k1
        clear k1
        go_wp2
        go_ret
        exact ⟨rfl, ((HW1.out.trans HE.out).trans HE3.out).trans HE4.out⟩
end Go.Proofs.Ytaimljagflnfpaa
