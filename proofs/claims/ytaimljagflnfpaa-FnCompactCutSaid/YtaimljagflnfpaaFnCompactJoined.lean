/- The walk of laws.FnCompactJoined: it returns true. The statement itself stands in the next file. -/
import Derived.Test.YtaimljagflnfpaaCompactOf
namespace Go.Proofs.Ytaimljagflnfpaa
open Go.RowKit

theorem joined_two (A B : Option Addr) (n m c d : Nat) (l vs M : List Int) (N : Nat) (w : World) (Bk : Nat) (hB : w.heap.size = Bk) (h1 : Row w 1 A n c (ints l)) (h2 : Row w 1 B m d (ints vs)) (hJ : l ++ vs = M) (hN : M.length = N) (hs : N ≤ 1099511627776) :
    Calls Try.prog 17 #[.slice (some ⟨Bk, 0, none⟩) 2 2] (w.alloc (.cells #[.slice A n c, .slice B m d] 22)) fun e w' => ∃ C k, e = .returned (.slice C N k) ∧ Row w' 1 C N k (ints M) ∧ Ext w w' := by
  subst hB
  refine (joined_to (some ⟨w.heap.size, 0, none⟩) 2 2 [l, vs] N M ⟨by simp [hJ], hN⟩ _ (lists_two w A B n c m d l vs h1 h2) hs).mono fun e w' ⟨C, k, h3, h4, h5⟩ => ⟨C, k, h3, h4, ((Ext.refl w).alloc _).trans h5⟩

set_option maxRecDepth 100000 in
set_option maxHeartbeats 1600000 in
theorem fnCompactJoined_ok (A B : Option Addr) (n m c d : Nat) (xs ys : List Int) (w : World) (hx : Row w 1 A n c (ints xs)) (hy : Row w 1 B m d (ints ys)) (hn : n ≤ 1048576) (hm : m ≤ 1048576) :
    Calls Try.prog 4 #[.slice A n c, .slice B m d] w fun e w' => e = .returned (.bool true) ∧ Ext w w' := by
  obtain ⟨a, ha⟩ : ∃ a, compO none xs = a := ⟨_, rfl⟩
  obtain ⟨b, hb⟩ : ∃ b, compO none ys = b := ⟨_, rfl⟩
  obtain ⟨T, hT⟩ : ∃ T, T = if xs ≠ [] ∧ ys ≠ [] ∧ lastO none xs = ys.head? then b.tail else b := ⟨_, rfl⟩
  have hj : compO none (xs ++ ys) = a ++ T := by rw [compO_joined, ha, hb, hT]
  obtain ⟨Na, hNa⟩ : ∃ Na, a.length = Na := ⟨_, rfl⟩
  obtain ⟨Nb, hNb⟩ : ∃ Nb, b.length = Nb := ⟨_, rfl⟩
  obtain ⟨N, hN⟩ : ∃ N, (a ++ T).length = N := ⟨_, rfl⟩
  have hxl := hx.ints_len
  have hyl := hy.ints_len
  have hal := compO_length none xs
  have hbl := compO_length none ys
  rw [ha, hNa, hxl] at hal
  rw [hb, hNb, hyl] at hbl
  have hNl : N ≤ 2097152 := by
    have := compO_length none (xs ++ ys)
    rw [hj, hN, List.length_append, hxl, hyl] at this
    omega
  have hNb0 : 0 < m → 0 < Nb := fun h => by
    rw [← hNb, ← hb]
    exact List.length_pos_iff.2 (compO_ne ys (fun e => by rw [e] at hyl; simp at hyl; omega))
  have HA := Lib.hid ha
  have HB := Lib.hid hb
  have HT := Lib.hid hT
  have HJ := Lib.hid hj
  have HNA := Lib.hid hNa
  have HNB := Lib.hid hNb
  have HN := Lib.hid hN
  have HX := Lib.hid hx
  have HY := Lib.hid hy
  have HXL := Lib.hid hxl
  have HYL := Lib.hid hyl
  clear ha hb hT hj hNa hNb hN hx hy hxl hyl
  go_enter Try.func4, Try.ntmps4
  go_wp2_with fail
  refine (compact_ok A n c xs a Na w HX.out (by omega) HA.out HNA.out).mono ?_
  rintro e w1 ⟨C1, q1, rfl, k1, k2⟩
  have HR1 := Lib.hid k1
  have HW1 := Lib.hid k2
  clear k1 k2
  go_wp2_with fail
  refine (compact_ok B m d ys b Nb w1 (HY.out.ext HW1.out) (by omega) HB.out HNB.out).mono ?_
  rintro e w2 ⟨C2, q2, rfl, k1, k2⟩
  have HR2 := Lib.hid k1
  have HW2 := Lib.hid (HW1.out.trans k2)
  have HR1' := Lib.hid (HR1.out.ext k2)
  clear k1 k2
  go_wp2_with fail
  refine (joined_two A B n m c d xs ys (xs ++ ys) (n + m) w2 _ rfl (HX.out.ext HW2.out) (HY.out.ext HW2.out) rfl (by rw [List.length_append, HXL.out, HYL.out]) (by omega)).mono ?_
  rintro e w3 ⟨C3, q3, rfl, k1, k2⟩
  have HR3 := Lib.hid k1
  have HW3 := Lib.hid (HW2.out.trans k2)
  have HRA3 := Lib.hid (HR1'.out.ext k2)
  have HRB3 := Lib.hid (HR2.out.ext k2)
  clear k1 k2
  go_wp2_with fail
  refine (compact_ok C3 (n + m) q3 (xs ++ ys) (a ++ T) N w3 HR3.out (by omega) HJ.out HN.out).mono ?_
  rintro e w4 ⟨C4, q4, rfl, k1, k2⟩
  have HR4 := Lib.hid k1
  have HW4 := Lib.hid (HW3.out.trans k2)
  have HRA := Lib.hid (HRA3.out.ext k2)
  have HRB := Lib.hid (HRB3.out.ext k2)
  clear k1 k2
  have HXW := Lib.hid (HX.out.ext HW4.out)
  have HYW := Lib.hid (HY.out.ext HW4.out)
  go_wp2
  by_cases hn0 : n = 0
  · have hI : ¬ (0 : Int) < (n : Int) := by omega
    have hI' : ¬ 0 < n := by omega
    have hd : decide (0 < n) = false := by simpa using hI'
    have HTB : Hid (T = b) := Lib.hid (by rw [HT.out, if_neg (fun h => h.1 (List.eq_nil_of_length_eq_zero (by rw [HXL.out, hn0])))])
    have HN0 := Lib.hid hn0
    clear hn0
    go_quiet (fail)
    clear hI hI' hd
    have hE5 : Ext w4 (w4.drewN nq) := (Ext.refl w4).drewN _
    generalize w4.drewN nq = W5 at hE5 ⊢
    have HE5 := Lib.hid hE5
    clear hE5
    go_wp2_with fail
    refine (joined_two C1 C2 Na Nb q1 q2 a T (a ++ T) N W5 _ rfl (HRA.out.ext HE5.out) (by rw [HTB.out]; exact HRB.out.ext HE5.out) rfl HN.out (by omega)).mono ?_
    rintro e w6 ⟨C6, q6, rfl, k1, k2⟩
    have HR6 := Lib.hid k1
    have HW6 := Lib.hid k2
    clear k1 k2
    go_wp2_with fail
    refine (same_true C4 C6 N N q4 q6 (a ++ T) w6 ((HR4.out.ext HE5.out).ext HW6.out) HR6.out).mono ?_
    rintro e w7 ⟨rfl, k1⟩
    have HW7 := Lib.hid k1
    clear k1
    go_wp2
    go_ret
    exact ⟨rfl, ((HW4.out.trans HE5.out).trans HW6.out).trans HW7.out⟩
  · have hI : (0 : Int) < (n : Int) := by omega
    have hI' : 0 < n := by omega
    have hd : decide (0 < n) = true := by simpa using hI'
    by_cases hm0 : m = 0
    · have hJ : ¬ (0 : Int) < (m : Int) := by omega
      have hJ' : ¬ 0 < m := by omega
      have hd' : decide (0 < m) = false := by simpa using hJ'
      have HTB : Hid (T = b) := Lib.hid (by rw [HT.out, if_neg (fun h => h.2.1 (List.eq_nil_of_length_eq_zero (by rw [HYL.out, hm0])))])
      have HM0 := Lib.hid hm0
      clear hm0
      go_quiet (fail)
      clear hI hI' hd hJ hJ' hd'
      have hE5 : Ext w4 (w4.drewN nq) := (Ext.refl w4).drewN _
      generalize w4.drewN nq = W5 at hE5 ⊢
      have HE5 := Lib.hid hE5
      clear hE5
      go_wp2_with fail
      refine (joined_two C1 C2 Na Nb q1 q2 a T (a ++ T) N W5 _ rfl (HRA.out.ext HE5.out) (by rw [HTB.out]; exact HRB.out.ext HE5.out) rfl HN.out (by omega)).mono ?_
      rintro e w6 ⟨C6, q6, rfl, k1, k2⟩
      have HR6 := Lib.hid k1
      have HW6 := Lib.hid k2
      clear k1 k2
      go_wp2_with fail
      refine (same_true C4 C6 N N q4 q6 (a ++ T) w6 ((HR4.out.ext HE5.out).ext HW6.out) HR6.out).mono ?_
      rintro e w7 ⟨rfl, k1⟩
      have HW7 := Lib.hid k1
      clear k1
      go_wp2
      go_ret
      exact ⟨rfl, ((HW4.out.trans HE5.out).trans HW6.out).trans HW7.out⟩
    · have hJ : (0 : Int) < (m : Int) := by omega
      have hJ' : 0 < m := by omega
      have hd' : decide (0 < m) = true := by simpa using hJ'
      have hK' : 0 < Nb := hNb0 hJ'
      have hK : (0 : Int) < (Nb : Int) := by omega
      have hd'' : decide (0 < Nb) = true := by simpa using hK'
      obtain ⟨b1, o1, x1, rfl, hx1, hc1⟩ := HXW.out.int_at (k := n - 1) (by omega)
      obtain ⟨b2, o2, y1, rfl, hy1, hc2⟩ := HYW.out.int_at (k := 0) hJ'
      rw [Nat.add_zero] at hc2
      have hlast : lastO none xs = some x1 := by rw [lastO_get none (k := n - 1) (by rw [HXL.out]; omega)]; exact hx1.out
      have hhead : ys.head? = some y1 := by rw [List.head?_eq_getElem?]; exact hy1.out
      have HLAST := Lib.hid hlast
      have HHEAD := Lib.hid hhead
      have sw : IntKind.i64.wrap ((n : Int) - 1) = (n : Int) - 1 := IntWalk.i64_in _ (by omega)
      have sn : (0 : Int) ≤ (n : Int) - 1 := by omega
      have sl : (n : Int) - 1 < (n : Int) := by omega
      have st : ((n : Int) - 1).toNat = n - 1 := by omega
      have sm : n - 1 < n := by omega
      clear hlast hhead
      have hxne : xs ≠ [] := fun e => by have := HXL.out; rw [e] at this; simp at this; omega
      have hyne : ys ≠ [] := fun e => by have := HYL.out; rw [e] at this; simp at this; omega
      have HNE := Lib.hid (And.intro hxne hyne)
      clear hxne hyne
      by_cases hxy : x1 = y1
      · subst hxy
        have HTB : Hid (T = b.tail) := Lib.hid (by rw [HT.out, if_pos ⟨HNE.out.1, HNE.out.2, by rw [HLAST.out, HHEAD.out]⟩])
        obtain ⟨b5, o5, hC2, -⟩ := HRB.out.2.2.2 hK'
        subst hC2
        have hqc := HRB.out.le
        have hqm := HRB.out.cap
        unfold maxLen at hqm
        have htl := HRB.out.tail (k := 1) (by omega)
        rw [Nat.mul_one] at htl
        have e5 : (ints b).drop 1 = ints T := by rw [HTB.out]; unfold ints; rw [← List.map_drop, List.drop_one]
        rw [e5] at htl
        simp only [Option.map_some, add_zero_off] at htl
        have HTL := Lib.hid htl
        clear htl e5
        have h1N : 1 ≤ Nb := hK'
        go_quiet (fail)
        clear hI hI' hd hJ hJ' hd' sw sn sl st sm hc1 hc2
        by_cases hq1 : q2 = 1
        · have HTL' : Hid (Row w4 1 (some ⟨b5, o5, none⟩) (Nb - 1) (q2 - 1) (ints T)) := Lib.hid (by have h := HTL.out; rw [if_pos hq1] at h; exact h)
          have hqT : (q2 = 1) = True := by simpa using hq1
          have HQ1 := Lib.hid hq1
          clear hq1
          have hE5 : Ext w4 (w4.drewN nq) := (Ext.refl w4).drewN _
          generalize w4.drewN nq = W5 at hE5 ⊢
          have HE5 := Lib.hid hE5
          clear hE5
          go_wp2_with fail
          refine (joined_two C1 _ Na _ q1 _ a T (a ++ T) N W5 _ rfl (HRA.out.ext HE5.out) (HTL'.out.ext HE5.out) rfl HN.out (by omega)).mono ?_
          rintro e w6 ⟨C6, q6, rfl, k1, k2⟩
          have HR6 := Lib.hid k1
          have HW6 := Lib.hid k2
          clear k1 k2
          go_wp2_with fail
          refine (same_true C4 C6 N N q4 q6 (a ++ T) w6 ((HR4.out.ext HE5.out).ext HW6.out) HR6.out).mono ?_
          rintro e w7 ⟨rfl, k1⟩
          have HW7 := Lib.hid k1
          clear k1
          go_wp2
          go_ret
          exact ⟨rfl, ((HW4.out.trans HE5.out).trans HW6.out).trans HW7.out⟩
        · have HTL' : Hid (Row w4 1 (some ⟨b5, o5 + 1, none⟩) (Nb - 1) (q2 - 1) (ints T)) := Lib.hid (by have h := HTL.out; rw [if_neg hq1] at h; exact h)
          have hE5 : Ext w4 (w4.drewN nq) := (Ext.refl w4).drewN _
          generalize w4.drewN nq = W5 at hE5 ⊢
          have HE5 := Lib.hid hE5
          clear hE5
          go_wp2_with fail
          refine (joined_two C1 _ Na _ q1 _ a T (a ++ T) N W5 _ rfl (HRA.out.ext HE5.out) (HTL'.out.ext HE5.out) rfl HN.out (by omega)).mono ?_
          rintro e w6 ⟨C6, q6, rfl, k1, k2⟩
          have HR6 := Lib.hid k1
          have HW6 := Lib.hid k2
          clear k1 k2
          go_wp2_with fail
          refine (same_true C4 C6 N N q4 q6 (a ++ T) w6 ((HR4.out.ext HE5.out).ext HW6.out) HR6.out).mono ?_
          rintro e w7 ⟨rfl, k1⟩
          have HW7 := Lib.hid k1
          clear k1
          go_wp2
          go_ret
          exact ⟨rfl, ((HW4.out.trans HE5.out).trans HW6.out).trans HW7.out⟩
      · have hb1 : (x1 == y1) = false := by simpa using hxy
        have HTB : Hid (T = b) := Lib.hid (by rw [HT.out, if_neg (fun h => hxy (by have := h.2.2; rw [HLAST.out, HHEAD.out] at this; injection this))])
        go_quiet (fail)
        clear hI hI' hd hJ hJ' hd' sw sn sl st sm hc1 hc2
        have hE5 : Ext w4 (w4.drewN nq) := (Ext.refl w4).drewN _
        generalize w4.drewN nq = W5 at hE5 ⊢
        have HE5 := Lib.hid hE5
        clear hE5
        go_wp2_with fail
        refine (joined_two C1 C2 Na Nb q1 q2 a T (a ++ T) N W5 _ rfl (HRA.out.ext HE5.out) (by rw [HTB.out]; exact HRB.out.ext HE5.out) rfl HN.out (by omega)).mono ?_
        rintro e w6 ⟨C6, q6, rfl, k1, k2⟩
        have HR6 := Lib.hid k1
        have HW6 := Lib.hid k2
        clear k1 k2
        go_wp2_with fail
        refine (same_true C4 C6 N N q4 q6 (a ++ T) w6 ((HR4.out.ext HE5.out).ext HW6.out) HR6.out).mono ?_
        rintro e w7 ⟨rfl, k1⟩
        have HW7 := Lib.hid k1
        clear k1
        go_wp2
        go_ret
        exact ⟨rfl, ((HW4.out.trans HE5.out).trans HW6.out).trans HW7.out⟩
end Go.Proofs.Ytaimljagflnfpaa
