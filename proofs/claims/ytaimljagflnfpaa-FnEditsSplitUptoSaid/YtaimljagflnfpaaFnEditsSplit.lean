/- The walk of laws.FnEditsSplit: it returns true. The statement itself stands in the next file. -/
import Derived.Test.YtaimljagflnfpaaRecsCut
namespace Go.Proofs.Ytaimljagflnfpaa
open Go.RowKit

theorem erows_split (xs : List Int) (E : List Edt) (k i : Nat) (hk : k ≤ E.length) : (erows xs E)[k + i]? = (erows (eend xs (E.take k)) (E.drop k))[i]? := by
  have h := erows_append xs (E.take k) (E.drop k)
  rw [List.take_append_drop] at h
  rw [h, List.getElem?_append_right (by rw [erows_length, List.length_take]; omega), erows_length, List.length_take]
  congr 1
  omega

set_option maxRecDepth 100000 in
set_option maxHeartbeats 1600000 in
theorem fnEditsSplit_ok (A0 A1 A2 A3 A4 : Option Addr) (n0 n1 n2 n3 n4 c0 c1 c2 c3 c4 : Nat) (xs ops fr to_ : List Int) (vals : List (List Int)) (kk : Int) (w : World) (h0 : Row w 1 A0 n0 c0 (ints xs)) (h1 : Row w 1 A1 n1 c1 (ints ops)) (h2 : Row w 1 A2 n2 c2 (ints fr)) (h3 : Row w 1 A3 n3 c3 (ints to_)) (h4 : Lists w A4 n4 c4 vals)
    (hn0 : n0 ≤ 1048576) (hn1 : n1 ≤ 1048576) (hv : vals.flatten.length ≤ 1048576) :
    Calls Try.prog 12 #[.slice A0 n0 c0, .slice A1 n1 c1, .slice A2 n2 c2, .slice A3 n3 c3, .slice A4 n4 c4, .int .i64 kk] w fun e w' => e = .returned (.bool true) ∧ Ext w w' := by
  have hs := script_ok A1 A2 A3 A4 n1 n2 n3 n4 c1 c2 c3 c4 ops fr to_ vals w h1 h2 h3 h4 (by omega) (by omega)
  have hev := evals_le ops fr to_ vals
  have hel := scriptP_length ops fr to_ vals
  rw [h1.ints_len] at hel
  obtain ⟨E, hE⟩ : ∃ E, E = scriptP ops fr to_ vals := ⟨_, rfl⟩
  rw [← hE] at hs hev hel
  have hxn := h0.ints_len
  have H0 := Lib.hid h0
  have HS := Lib.hid hs
  have HEV := Lib.hid hev
  have HEL := Lib.hid hel
  have HXN := Lib.hid hxn
  clear h0 h1 h2 h3 h4 hs hev hel hE hxn
  go_enter Try.func12, Try.ntmps12
  go_wp2_with fail
  refine HS.out.mono ?_
  rintro e w1 ⟨u, rfl, k1, k2⟩
  obtain ⟨C0, q0, rfl, k3⟩ := script_form k1
  rw [HEL.out] at k3 ⊢
  have HT := Lib.hid k3
  have HW1 := Lib.hid k2
  clear k1 k2 k3
  by_cases hk0 : kk < 0
  · have hk0' : decide (kk < 0) = true := by simpa using hk0
    go_wp2
    go_ret
    exact ⟨rfl, HW1.out⟩
  by_cases hk1 : (n1 : Int) < kk
  · go_wp2
    go_ret
    exact ⟨rfl, HW1.out⟩
  obtain ⟨k, rfl⟩ := Int.eq_ofNat_of_zero_le (show 0 ≤ kk by omega)
  have hkn : k ≤ n1 := by omega
  obtain ⟨hq1, hq2⟩ := edts_cap HT.out
  unfold maxLen at hq2
  go_wp2_with fail
  refine (editsAll_ok A0 C0 n0 n1 c0 q0 xs 0 0 E w1 (H0.out.ext HW1.out) HT.out (by decide) (by have := HEV.out; omega) (by omega)).mono ?_
  rintro e w2 ⟨C1, q1, D1, rfl, k1, k2, k3, k4⟩
  have HD1 := Lib.hid k1
  have HM1 := Lib.hid k2
  have HW2 := Lib.hid (HW1.out.trans k4)
  have HT2 := Lib.hid (Recs.ext HT.out k4)
  clear k1 k2 k3 k4
  obtain ⟨mid, hmid⟩ : ∃ mid, mid = eend xs (E.take k) := ⟨_, rfl⟩
  obtain ⟨N, hN⟩ : ∃ N, N = mid.length := ⟨_, rfl⟩
  have hNl : N + evals (E.drop k) ≤ 2097152 := by
    have h1 := eend_length xs (E.take k)
    have h2 := evals_append (E.take k) (E.drop k)
    rw [List.take_append_drop] at h2
    have h3 := HEV.out
    rw [← hmid, ← hN, HXN.out] at h1
    omega
  have HMID := Lib.hid hmid
  have HN := Lib.hid hN
  have HL := Lib.hid (last_ok A0 C0 n0 k c0 q0 xs (E.take k) w2 (H0.out.ext HW2.out) (Recs.head ecell_len (by omega) HT2.out hkn) (by have h1 := evals_take E k; have h2 := HEV.out; omega) (by omega))
  clear hmid hN
  go_wp2_with fail
  refine HL.out.mono ?_
  rintro e w3 ⟨C2, q2, rfl, k1, k2⟩
  rw [← HMID.out, ← HN.out] at k1 ⊢
  have HR2 := Lib.hid k1
  have HW3 := Lib.hid (HW2.out.trans k2)
  have HT3 := Lib.hid (Recs.tail ecell_len (by omega) (Recs.ext HT2.out k2) hkn)
  have HD1' := Lib.hid (Recs.ext HD1.out k2)
  clear k1 k2
  by_cases hqk : q0 = k
  all_goals
    have HT4 : Hid (Edts w3 _ (n1 - k) (q0 - k) (E.drop k)) := Lib.hid (by have h := HT3.out; first | (rw [if_pos hqk] at h; exact h) | (rw [if_neg hqk] at h; exact h))
    first
    | (have hqT : (q0 = k) = True := by simpa using hqk
       have HQK := Lib.hid hqk
       clear hqk)
    | skip
    go_wp2_with fail
    refine (editsAll_ok C2 _ N (n1 - k) q2 (q0 - k) mid 0 0 (E.drop k) w3 HR2.out HT4.out (by decide) (by omega) (by omega)).mono ?_
    rintro e w4 ⟨C5, q5, D5, rfl, k1, k2, k3, k4⟩
    have HD5 := Lib.hid k1
    have HM5 := Lib.hid k2
    have HW4 := Lib.hid (HW3.out.trans k4)
    have HD1'' := Lib.hid (Recs.ext HD1'.out k4)
    clear k1 k2 k3 k4
    go_wp2
    go_loopg [69] (n1 - k) (fun kx i wr => ∃ j : Nat, j + kx = n1 - k ∧ i = .int .i64 (j : Int) ∧ Hid (Ext w4 wr))
    case atStart => exact ⟨0, by omega, rfl, Ext.refl _⟩
    case round =>
      obtain ⟨j, hj, rfl, HE⟩ := hrel
      by_cases hlt : j < n1 - k
      · obtain ⟨b1, o1, p1, l1, s1, B1, t1, rfl, hd1, hc1, hc2, hc3, hr1⟩ := erows_at (Recs.ext HD5.out HE.out) (k := j) hlt
        obtain ⟨b2, o2, p2, l2, s2, B2, t2, rfl, hd2, hd3, hd4, hd5, hr2⟩ := erows_at (Recs.ext HD1''.out HE.out) (k := k + j) (by omega)
        have he1 := rows_at HM5.out hd1.out
        rw [HMID.out, ← erows_split xs E k j (by rw [HEL.out]; exact hkn), rows_at HM1.out hd2.out] at he1
        injection he1 with he1
        injection he1 with he2 he3
        subst he2 he3
        have hpp : (p2 != p2) = false := by simp
        have hpp' : (p2 == p2) = true := by simp
        have hd3' := fun o => cell_alloc_some hd3 o
        have hd4' := fun o => cell_alloc_some hd4 o
        have hr1' := fun o => Lib.hid (Row.alloc hr1.out o)
        have hr2' := fun o => Lib.hid (Row.alloc hr2.out o)
        clear hd5
        have sw : IntKind.i64.wrap ((k : Int) + (j : Int)) = (k : Int) + (j : Int) := IntWalk.i64_in _ (by omega)
        have sn : (0 : Int) ≤ (k : Int) + (j : Int) := by omega
        have sl : (k : Int) + (j : Int) < (n1 : Int) := by omega
        have st : ((k : Int) + (j : Int)).toNat = k + j := by omega
        have sm : k + j < n1 := by omega
        go_wp2
        go_quiet ((go_at_call 16; exact Calls.quiet_of (same_quiet _ _ _ _ _ _ l2 _ ((hr1' _).out.ext ((Ext.refl _).drewN _)) ((hr2' _).out.ext ((Ext.refl _).drewN _)))))
        clear sw sn sl st sm hd3' hd4' hr1' hr2'
        go_wp2
        go_roundg (gk - 1)
        case measure => omega
        case rel => exact ⟨j + 1, by omega, by go_num, (HE.out.alloc _).drewN _⟩
      · go_wp2
        go_ret
        exact ⟨rfl, HW4.out.trans HE.out⟩
end Go.Proofs.Ytaimljagflnfpaa
