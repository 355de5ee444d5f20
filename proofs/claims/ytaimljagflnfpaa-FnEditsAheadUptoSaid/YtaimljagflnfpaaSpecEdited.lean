/- The contract of spec.Edited: one edit by its definition. No statement of the seat is proved here. -/
import Derived.Test.YtaimljagflnfpaaCompacted
namespace Go.Proofs.Ytaimljagflnfpaa
open Go.RowKit

def SPost (w : World) (l : List Int) (e : Edt) (en : Ending) (w' : World) : Prop :=
  ∃ C q, en = .returned (.tuple #[.slice C (stepP l e).length q, .bool (outP l e)]) ∧ w'.ownsRow w.heap.size 3 1 (.slice C (stepP l e).length q) (stepP l e).length (ints (stepP l e)) ∧ Ext w w'
theorem sp_ok {w w' : World} {l r : List Int} {e : Edt} {C : Option Addr} {N q : Nat} (hP : editP l e = some r) (hN : r.length = N) (hr : w'.ownsRow w.heap.size 3 1 (.slice C N q) N (ints r)) (hx : Ext w w') : SPost w l e (.returned (.tuple #[.slice C N q, .bool false])) w' := by
  have hst : stepP l e = r := by unfold stepP; rw [hP]; rfl
  have hot : outP l e = false := by unfold outP; rw [hP]; rfl
  subst hN
  exact ⟨C, q, by rw [hst, hot], by rw [hst]; exact hr, hx⟩
theorem sp_out {w w' : World} {l : List Int} {e : Edt} {C : Option Addr} {N q : Nat} (hP : editP l e = none) (hN : l.length = N) (hr : w'.ownsRow w.heap.size 3 1 (.slice C N q) N (ints l)) (hx : Ext w w') : SPost w l e (.returned (.tuple #[.slice C N q, .bool true])) w' := by
  have hst : stepP l e = l := by unfold stepP; rw [hP]; rfl
  have hot : outP l e = true := by unfold outP; rw [hP]; rfl
  subst hN
  exact ⟨C, q, by rw [hst, hot], by rw [hst]; exact hr, hx⟩

set_option maxRecDepth 100000 in
set_option maxHeartbeats 1600000 in
theorem spec_insert (A : Option Addr) (n c : Nat) (l : List Int) (i j : Int) (B : Option Addr) (m d : Nat) (vs : List Int) (w : World) (hx : Row w 1 A n c (ints l)) (hy : Row w 1 B m d (ints vs)) (hn : n ≤ 274877906944) (hm : m ≤ 274877906944) :
    Calls Try.prog 23 #[.slice A n c, .int .i64 0, .int .i64 i, .int .i64 j, .slice B m d] w (SPost w l (0, i, j, vs)) := by
  have HL := Lib.hid hx.ints_len
  have HV := Lib.hid hy.ints_len
  have HX := Lib.hid hx
  have HY := Lib.hid hy
  obtain ⟨hn, hm⟩ : n ≤ 274877906944 ∧ m ≤ 274877906944 := ⟨hn, hm⟩
  clear hx hy
  by_cases h0 : i < 0
  · have h0' : decide (i < 0) = true := by simpa using h0
    go_enter Try.func23, Try.ntmps23
    go_wp2_with fail
    refine (joined_one A n c l w _ rfl HX.out (by omega)).mono ?_
    rintro e w1 ⟨C, q, rfl, k1, k2⟩
    have HR := Lib.hid k1
    have HW := Lib.hid k2
    clear k1 k2
    go_wp2
    go_ret2
    exact sp_out (by rw [editP_0, cutP_none (by rw [HL.out]; omega)]) HL.out HR.out HW.out
  by_cases h1 : (n : Int) < i
  · go_enter Try.func23, Try.ntmps23
    go_wp2_with fail
    refine (joined_one A n c l w _ rfl HX.out (by omega)).mono ?_
    rintro e w1 ⟨C, q, rfl, k1, k2⟩
    have HR := Lib.hid k1
    have HW := Lib.hid k2
    clear k1 k2
    go_wp2
    go_ret2
    exact sp_out (by rw [editP_0, cutP_none (by rw [HL.out]; omega)]) HL.out HR.out HW.out
  obtain ⟨i, rfl⟩ := Int.eq_ofNat_of_zero_le (show 0 ≤ i by omega)
  go_enter Try.func23, Try.ntmps23
  go_wp2_with fail
  refine (part_ok A n c 0 (i : Int) l w HX.out (by omega) (by omega) (by omega) (by omega)).mono ?_
  rintro e w1 ⟨C1, m1, q1, rfl, k1, k2⟩
  have HR1 := Lib.hid k1
  have HW1 := Lib.hid k2
  clear k1 k2
  go_wp2_with fail
  refine (part_ok A n c (i : Int) (n : Int) l w1 (HX.out.ext HW1.out) (by omega) (by omega) (by omega) (by omega)).mono ?_
  rintro e w2 ⟨C2, m2, q2, rfl, k1, k2⟩
  have HR2 := Lib.hid k1
  have HW2 := Lib.hid (HW1.out.trans k2)
  have HR1' := Lib.hid (HR1.out.ext k2)
  have e1 : (l.take (i : Int).toNat).drop (0 : Int).toNat = l.take i := by simp
  have e2 : (l.take (n : Int).toNat).drop (i : Int).toNat = l.drop i := by rw [Int.toNat_natCast, Int.toNat_natCast, List.take_of_length_le (by rw [HL.out]; exact Nat.le_refl _)]
  rw [e1] at HR1'
  rw [e2] at HR2
  have HM1 := Lib.hid HR1'.out.ints_len
  have HM2 := Lib.hid HR2.out.ints_len
  have hm1 : m1 ≤ n := by have h := HM1.out; have h2 := HL.out; rw [List.length_take] at h; omega
  have hm2 : m2 ≤ n := by have h := HM2.out; have h2 := HL.out; rw [List.length_drop] at h; omega
  clear k1 k2 e1 e2
  go_wp2_with fail
  refine (joined_three C1 B C2 m1 q1 m d m2 q2 (l.take i) vs (l.drop i) (l.take i ++ vs ++ l.drop i) (m1 + m + m2) w2 _ rfl HR1'.out (HY.out.ext HW2.out) HR2.out rfl (by rw [List.length_append, List.length_append, HM1.out, HM2.out, HV.out]) (by omega)).mono ?_
  rintro e w3 ⟨C3, q3, rfl, k1, k2⟩
  have HR3 := Lib.hid (own_up k1 HW2.out.size)
  have HW3 := Lib.hid (HW2.out.trans k2)
  clear k1 k2
  go_wp2
  go_ret2
  exact sp_ok ((editP_0 _ _ _ _).trans (cutP_some (Nat.le_refl _) (by rw [HL.out]; omega))) (by simp only [List.length_append, HM1.out, HM2.out, HV.out]) HR3.out HW3.out

set_option maxRecDepth 100000 in
set_option maxHeartbeats 1600000 in
theorem spec_delete (A : Option Addr) (n c : Nat) (l : List Int) (i j : Int) (B : Option Addr) (m d : Nat) (vs : List Int) (w : World) (hx : Row w 1 A n c (ints l)) (hy : Row w 1 B m d (ints vs)) (hn : n ≤ 274877906944) (hm : m ≤ 274877906944) :
    Calls Try.prog 23 #[.slice A n c, .int .i64 1, .int .i64 i, .int .i64 j, .slice B m d] w (SPost w l (1, i, j, vs)) := by
  have HL := Lib.hid hx.ints_len
  have HV := Lib.hid hy.ints_len
  have HX := Lib.hid hx
  have HY := Lib.hid hy
  obtain ⟨hn, hm⟩ : n ≤ 274877906944 ∧ m ≤ 274877906944 := ⟨hn, hm⟩
  clear hx hy
  by_cases h0 : i < 0
  · have h0' : decide (i < 0) = true := by simpa using h0
    go_enter Try.func23, Try.ntmps23
    go_wp2_with fail
    refine (joined_one A n c l w _ rfl HX.out (by omega)).mono ?_
    rintro e w1 ⟨C, q, rfl, k1, k2⟩
    have HR := Lib.hid k1
    have HW := Lib.hid k2
    clear k1 k2
    go_wp2
    go_ret2
    exact sp_out (by rw [editP_1, cutP_none (by rw [HL.out]; omega)]) HL.out HR.out HW.out
  by_cases h2 : j < i
  · have h2' : decide (j < i) = true := by simpa using h2
    go_enter Try.func23, Try.ntmps23
    go_wp2_with fail
    refine (joined_one A n c l w _ rfl HX.out (by omega)).mono ?_
    rintro e w1 ⟨C, q, rfl, k1, k2⟩
    have HR := Lib.hid k1
    have HW := Lib.hid k2
    clear k1 k2
    go_wp2
    go_ret2
    exact sp_out (by rw [editP_1, cutP_none (by rw [HL.out]; omega)]) HL.out HR.out HW.out
  by_cases h1 : (n : Int) < j
  · go_enter Try.func23, Try.ntmps23
    go_wp2_with fail
    refine (joined_one A n c l w _ rfl HX.out (by omega)).mono ?_
    rintro e w1 ⟨C, q, rfl, k1, k2⟩
    have HR := Lib.hid k1
    have HW := Lib.hid k2
    clear k1 k2
    go_wp2
    go_ret2
    exact sp_out (by rw [editP_1, cutP_none (by rw [HL.out]; omega)]) HL.out HR.out HW.out
  obtain ⟨i, rfl⟩ := Int.eq_ofNat_of_zero_le (show 0 ≤ i by omega)
  obtain ⟨j, rfl⟩ := Int.eq_ofNat_of_zero_le (show 0 ≤ j by omega)
  go_enter Try.func23, Try.ntmps23
  go_wp2_with fail
  refine (part_ok A n c 0 (i : Int) l w HX.out (by omega) (by omega) (by omega) (by omega)).mono ?_
  rintro e w1 ⟨C1, m1, q1, rfl, k1, k2⟩
  have HR1 := Lib.hid k1
  have HW1 := Lib.hid k2
  clear k1 k2
  go_wp2_with fail
  refine (part_ok A n c (j : Int) (n : Int) l w1 (HX.out.ext HW1.out) (by omega) (by omega) (by omega) (by omega)).mono ?_
  rintro e w2 ⟨C2, m2, q2, rfl, k1, k2⟩
  have HR2 := Lib.hid k1
  have HW2 := Lib.hid (HW1.out.trans k2)
  have HR1' := Lib.hid (HR1.out.ext k2)
  have e1 : (l.take (i : Int).toNat).drop (0 : Int).toNat = l.take i := by simp
  have e2 : (l.take (n : Int).toNat).drop (j : Int).toNat = l.drop j := by rw [Int.toNat_natCast, Int.toNat_natCast, List.take_of_length_le (by rw [HL.out]; exact Nat.le_refl _)]
  rw [e1] at HR1'
  rw [e2] at HR2
  have HM1 := Lib.hid HR1'.out.ints_len
  have HM2 := Lib.hid HR2.out.ints_len
  have hm1 : m1 ≤ n := by have h := HM1.out; have h2 := HL.out; rw [List.length_take] at h; omega
  have hm2 : m2 ≤ n := by have h := HM2.out; have h2 := HL.out; rw [List.length_drop] at h; omega
  clear k1 k2 e1 e2
  go_wp2_with fail
  refine (joined_two_own C1 C2 m1 m2 q1 q2 (l.take i) (l.drop j) (l.take i ++ l.drop j) (m1 + m2) w2 _ rfl HR1'.out HR2.out rfl (by rw [List.length_append, HM1.out, HM2.out]) (by omega)).mono ?_
  rintro e w3 ⟨C3, q3, rfl, k1, k2⟩
  have HR3 := Lib.hid (own_up k1 HW2.out.size)
  have HW3 := Lib.hid (HW2.out.trans k2)
  clear k1 k2
  go_wp2
  go_ret2
  exact sp_ok (by rw [editP_1, cutP_some (by omega) (by rw [HL.out]; omega), List.append_nil]) (by simp only [List.length_append, HM1.out, HM2.out]) HR3.out HW3.out

set_option maxRecDepth 100000 in
set_option maxHeartbeats 1600000 in
theorem spec_replace (A : Option Addr) (n c : Nat) (l : List Int) (i j : Int) (B : Option Addr) (m d : Nat) (vs : List Int) (w : World) (hx : Row w 1 A n c (ints l)) (hy : Row w 1 B m d (ints vs)) (hn : n ≤ 274877906944) (hm : m ≤ 274877906944) :
    Calls Try.prog 23 #[.slice A n c, .int .i64 2, .int .i64 i, .int .i64 j, .slice B m d] w (SPost w l (2, i, j, vs)) := by
  have HL := Lib.hid hx.ints_len
  have HV := Lib.hid hy.ints_len
  have HX := Lib.hid hx
  have HY := Lib.hid hy
  obtain ⟨hn, hm⟩ : n ≤ 274877906944 ∧ m ≤ 274877906944 := ⟨hn, hm⟩
  clear hx hy
  by_cases h0 : i < 0
  · have h0' : decide (i < 0) = true := by simpa using h0
    go_enter Try.func23, Try.ntmps23
    go_wp2_with fail
    refine (joined_one A n c l w _ rfl HX.out (by omega)).mono ?_
    rintro e w1 ⟨C, q, rfl, k1, k2⟩
    have HR := Lib.hid k1
    have HW := Lib.hid k2
    clear k1 k2
    go_wp2
    go_ret2
    exact sp_out (by rw [editP_2, cutP_none (by rw [HL.out]; omega)]) HL.out HR.out HW.out
  by_cases h2 : j < i
  · have h2' : decide (j < i) = true := by simpa using h2
    go_enter Try.func23, Try.ntmps23
    go_wp2_with fail
    refine (joined_one A n c l w _ rfl HX.out (by omega)).mono ?_
    rintro e w1 ⟨C, q, rfl, k1, k2⟩
    have HR := Lib.hid k1
    have HW := Lib.hid k2
    clear k1 k2
    go_wp2
    go_ret2
    exact sp_out (by rw [editP_2, cutP_none (by rw [HL.out]; omega)]) HL.out HR.out HW.out
  by_cases h1 : (n : Int) < j
  · go_enter Try.func23, Try.ntmps23
    go_wp2_with fail
    refine (joined_one A n c l w _ rfl HX.out (by omega)).mono ?_
    rintro e w1 ⟨C, q, rfl, k1, k2⟩
    have HR := Lib.hid k1
    have HW := Lib.hid k2
    clear k1 k2
    go_wp2
    go_ret2
    exact sp_out (by rw [editP_2, cutP_none (by rw [HL.out]; omega)]) HL.out HR.out HW.out
  obtain ⟨i, rfl⟩ := Int.eq_ofNat_of_zero_le (show 0 ≤ i by omega)
  obtain ⟨j, rfl⟩ := Int.eq_ofNat_of_zero_le (show 0 ≤ j by omega)
  go_enter Try.func23, Try.ntmps23
  go_wp2_with fail
  refine (part_ok A n c 0 (i : Int) l w HX.out (by omega) (by omega) (by omega) (by omega)).mono ?_
  rintro e w1 ⟨C1, m1, q1, rfl, k1, k2⟩
  have HR1 := Lib.hid k1
  have HW1 := Lib.hid k2
  clear k1 k2
  go_wp2_with fail
  refine (part_ok A n c (j : Int) (n : Int) l w1 (HX.out.ext HW1.out) (by omega) (by omega) (by omega) (by omega)).mono ?_
  rintro e w2 ⟨C2, m2, q2, rfl, k1, k2⟩
  have HR2 := Lib.hid k1
  have HW2 := Lib.hid (HW1.out.trans k2)
  have HR1' := Lib.hid (HR1.out.ext k2)
  have e1 : (l.take (i : Int).toNat).drop (0 : Int).toNat = l.take i := by simp
  have e2 : (l.take (n : Int).toNat).drop (j : Int).toNat = l.drop j := by rw [Int.toNat_natCast, Int.toNat_natCast, List.take_of_length_le (by rw [HL.out]; exact Nat.le_refl _)]
  rw [e1] at HR1'
  rw [e2] at HR2
  have HM1 := Lib.hid HR1'.out.ints_len
  have HM2 := Lib.hid HR2.out.ints_len
  have hm1 : m1 ≤ n := by have h := HM1.out; have h2 := HL.out; rw [List.length_take] at h; omega
  have hm2 : m2 ≤ n := by have h := HM2.out; have h2 := HL.out; rw [List.length_drop] at h; omega
  clear k1 k2 e1 e2
  go_wp2_with fail
  refine (joined_three C1 B C2 m1 q1 m d m2 q2 (l.take i) vs (l.drop j) (l.take i ++ vs ++ l.drop j) (m1 + m + m2) w2 _ rfl HR1'.out (HY.out.ext HW2.out) HR2.out rfl (by rw [List.length_append, List.length_append, HM1.out, HM2.out, HV.out]) (by omega)).mono ?_
  rintro e w3 ⟨C3, q3, rfl, k1, k2⟩
  have HR3 := Lib.hid (own_up k1 HW2.out.size)
  have HW3 := Lib.hid (HW2.out.trans k2)
  clear k1 k2
  go_wp2
  go_ret2
  exact sp_ok ((editP_2 _ _ _ _).trans (cutP_some (by omega) (by rw [HL.out]; omega))) (by simp only [List.length_append, HM1.out, HM2.out, HV.out]) HR3.out HW3.out

set_option maxRecDepth 100000 in
set_option maxHeartbeats 1600000 in
theorem spec_compact (A : Option Addr) (n c : Nat) (l : List Int) (i j : Int) (B : Option Addr) (m d : Nat) (vs : List Int) (w : World) (hx : Row w 1 A n c (ints l)) (hy : Row w 1 B m d (ints vs)) (hn : n ≤ 274877906944) (hm : m ≤ 274877906944) :
    Calls Try.prog 23 #[.slice A n c, .int .i64 3, .int .i64 i, .int .i64 j, .slice B m d] w (SPost w l (3, i, j, vs)) := by
  have HL := Lib.hid hx.ints_len
  have HV := Lib.hid hy.ints_len
  have HX := Lib.hid hx
  have HY := Lib.hid hy
  obtain ⟨hn, hm⟩ : n ≤ 274877906944 ∧ m ≤ 274877906944 := ⟨hn, hm⟩
  clear hx hy
  go_enter Try.func23, Try.ntmps23
  go_wp2_with fail
  refine (compacted_ok A n c l w HX.out (by omega)).mono ?_
  rintro e w1 ⟨C, q, rfl, k1, k2⟩
  have HR := Lib.hid k1
  have HW := Lib.hid k2
  clear k1 k2
  go_wp2
  go_ret2
  exact sp_ok (editP_3 _ _ _ _) rfl HR.out HW.out

set_option maxRecDepth 100000 in
set_option maxHeartbeats 1600000 in
theorem spec_concat (A : Option Addr) (n c : Nat) (l : List Int) (i j : Int) (B : Option Addr) (m d : Nat) (vs : List Int) (w : World) (hx : Row w 1 A n c (ints l)) (hy : Row w 1 B m d (ints vs)) (hn : n ≤ 274877906944) (hm : m ≤ 274877906944) :
    Calls Try.prog 23 #[.slice A n c, .int .i64 4, .int .i64 i, .int .i64 j, .slice B m d] w (SPost w l (4, i, j, vs)) := by
  have HL := Lib.hid hx.ints_len
  have HV := Lib.hid hy.ints_len
  have HX := Lib.hid hx
  have HY := Lib.hid hy
  obtain ⟨hn, hm⟩ : n ≤ 274877906944 ∧ m ≤ 274877906944 := ⟨hn, hm⟩
  clear hx hy
  go_enter Try.func23, Try.ntmps23
  go_wp2_with fail
  refine (joined_two_own A B n m c d l vs (l ++ vs) (n + m) w _ rfl HX.out HY.out rfl (by rw [List.length_append, HL.out, HV.out]) (by omega)).mono ?_
  rintro e w1 ⟨C, q, rfl, k1, k2⟩
  have HR := Lib.hid k1
  have HW := Lib.hid k2
  clear k1 k2
  go_wp2
  go_ret2
  exact sp_ok (editP_4 _ _ _ _) (by rw [List.length_append, HL.out, HV.out]) HR.out HW.out

set_option maxRecDepth 100000 in
set_option maxHeartbeats 1600000 in
theorem spec_other (A : Option Addr) (n c : Nat) (l : List Int) (i j : Int) (B : Option Addr) (m d : Nat) (vs : List Int) (w : World) (hx : Row w 1 A n c (ints l)) (hy : Row w 1 B m d (ints vs)) (hn : n ≤ 274877906944) (hm : m ≤ 274877906944) (k : Int) (h0 : (k == 0) = false) (h1 : (k == 1) = false) (h2 : (k == 2) = false) (h3 : (k == 3) = false) (h4 : (k == 4) = false) :
    Calls Try.prog 23 #[.slice A n c, .int .i64 k, .int .i64 i, .int .i64 j, .slice B m d] w (SPost w l (k, i, j, vs)) := by
  have HL := Lib.hid hx.ints_len
  have HV := Lib.hid hy.ints_len
  have HX := Lib.hid hx
  have HY := Lib.hid hy
  obtain ⟨hn, hm⟩ : n ≤ 274877906944 ∧ m ≤ 274877906944 := ⟨hn, hm⟩
  clear hx hy
  go_enter Try.func23, Try.ntmps23
  go_wp2_with fail
  refine (joined_one A n c l w _ rfl HX.out (by omega)).mono ?_
  rintro e w1 ⟨C, q, rfl, k1, k2⟩
  have HR := Lib.hid k1
  have HW := Lib.hid k2
  clear k1 k2
  go_wp2
  go_ret2
  exact sp_ok (by
    have h0' : ¬ k = 0 := by simpa using h0
    have h1' : ¬ k = 1 := by simpa using h1
    have h2' : ¬ k = 2 := by simpa using h2
    have h3' : ¬ k = 3 := by simpa using h3
    have h4' : ¬ k = 4 := by simpa using h4
    simp [editP, h0', h1', h2', h3', h4']) HL.out HR.out HW.out

theorem specEdited_ok (A : Option Addr) (n c : Nat) (l : List Int) (e : Edt) (B : Option Addr) (d : Nat) (w : World) (hx : Row w 1 A n c (ints l)) (hy : Row w 1 B e.2.2.2.length d (ints e.2.2.2)) (hn : n ≤ 274877906944) (hm : e.2.2.2.length ≤ 274877906944) :
    Calls Try.prog 23 #[.slice A n c, .int .i64 e.1, .int .i64 e.2.1, .int .i64 e.2.2.1, .slice B e.2.2.2.length d] w (SPost w l e) := by
  obtain ⟨k, i, j, vs⟩ := e
  simp only at hy hm ⊢
  by_cases h0 : k = 0
  · subst h0; exact spec_insert A n c l i j B _ d vs w hx hy hn hm
  · by_cases h1 : k = 1
    · subst h1; exact spec_delete A n c l i j B _ d vs w hx hy hn hm
    · by_cases h2 : k = 2
      · subst h2; exact spec_replace A n c l i j B _ d vs w hx hy hn hm
      · by_cases h3 : k = 3
        · subst h3; exact spec_compact A n c l i j B _ d vs w hx hy hn hm
        · by_cases h4 : k = 4
          · subst h4; exact spec_concat A n c l i j B _ d vs w hx hy hn hm
          · exact spec_other A n c l i j B _ d vs w hx hy hn hm k (by simpa using h0) (by simpa using h1) (by simpa using h2) (by simpa using h3) (by simpa using h4)
end Go.Proofs.Ytaimljagflnfpaa
