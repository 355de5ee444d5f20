/- The walk of laws.FnEditsRoom: it returns true. The statement itself stands in the next file. -/
import Derived.Test.YtaimljagflnfpaaRowsEq
namespace Go.Proofs.Ytaimljagflnfpaa
open Go.RowKit

set_option maxRecDepth 100000 in
set_option maxHeartbeats 1600000 in
theorem fnEditsRoom_ok (A0 A1 A2 A3 A4 : Option Addr) (n0 n1 n2 n3 n4 c0 c1 c2 c3 c4 : Nat) (xs ops fr to_ : List Int) (vals : List (List Int)) (room other : Int) (w : World) (h0 : Row w 1 A0 n0 c0 (ints xs)) (h1 : Row w 1 A1 n1 c1 (ints ops)) (h2 : Row w 1 A2 n2 c2 (ints fr)) (h3 : Row w 1 A3 n3 c3 (ints to_)) (h4 : Lists w A4 n4 c4 vals)
    (hn0 : n0 ≤ 1048576) (hn1 : n1 ≤ 1048576) (hv : vals.flatten.length ≤ 1048576) :
    Calls Try.prog 9 #[.slice A0 n0 c0, .int .i64 room, .int .i64 other, .slice A1 n1 c1, .slice A2 n2 c2, .slice A3 n3 c3, .slice A4 n4 c4] w fun e w' => e = .returned (.bool true) ∧ Ext w w' := by
  obtain ⟨R1, hR1⟩ := room_nat room
  obtain ⟨R2, hR2⟩ := room_nat other
  have hs := script_ok A1 A2 A3 A4 n1 n2 n3 n4 c1 c2 c3 c4 ops fr to_ vals w h1 h2 h3 h4 (by omega) (by omega)
  have hev := evals_le ops fr to_ vals
  have hel := scriptP_length ops fr to_ vals
  rw [h1.ints_len] at hel
  obtain ⟨E, hE⟩ : ∃ E, E = scriptP ops fr to_ vals := ⟨_, rfl⟩
  rw [← hE] at hs hev hel
  have H0 := Lib.hid h0
  have HS := Lib.hid hs
  have HEV := Lib.hid hev
  have HEL := Lib.hid hel
  have HR1 := Lib.hid hR1
  have HR2 := Lib.hid hR2
  clear h0 h1 h2 h3 h4 hs hev hel hE hR1 hR2
  go_enter Try.func9, Try.ntmps9
  go_wp2_with fail
  refine HS.out.mono ?_
  rintro e w1 ⟨u, rfl, k1, k2⟩
  obtain ⟨C0, q0, rfl, k3⟩ := script_form k1
  rw [HEL.out] at k3 ⊢
  have HT := Lib.hid k3
  have HW1 := Lib.hid k2
  clear k1 k2 k3
  go_wp2_with fail
  refine (editsAll_ok A0 C0 n0 n1 c0 q0 xs room R1 E w1 (H0.out.ext HW1.out) HT.out HR1.out (by have := HEV.out; omega) (by omega)).mono ?_
  rintro e w2 ⟨C1, q1, D1, rfl, k1, k2, k3, k4⟩
  have HD1 := Lib.hid k1
  have HM1 := Lib.hid k2
  have HW2 := Lib.hid (HW1.out.trans k4)
  have HT2 := Lib.hid (Recs.ext HT.out k4)
  clear k1 k2 k3 k4
  go_wp2_with fail
  refine (editsAll_ok A0 C0 n0 n1 c0 q0 xs other R2 E w2 (H0.out.ext HW2.out) HT2.out HR2.out (by have := HEV.out; omega) (by omega)).mono ?_
  rintro e w3 ⟨C2, q2, D2, rfl, k1, k2, k3, k4⟩
  have HD2 := Lib.hid k1
  have HM2 := Lib.hid k2
  have HW3 := Lib.hid (HW2.out.trans k4)
  have HD1' := Lib.hid (Recs.ext HD1.out k4)
  clear k1 k2 k3 k4
  go_wp2
  go_loopg [46] n1 (fun kx i wr => ∃ k : Nat, k + kx = n1 ∧ i = .int .i64 (k : Int) ∧ Hid (Ext w3 wr))
  case atStart => exact ⟨0, by omega, rfl, Ext.refl _⟩
  case round =>
    obtain ⟨k, hk, rfl, HE⟩ := hrel
    by_cases hlt : k < n1
    · obtain ⟨b1, o1, p1, l1, s1, B1, t1, rfl, hd1, hc1, hc2, hc3, hr1⟩ := erows_at (Recs.ext HD1'.out HE.out) (k := k) hlt
      obtain ⟨b2, o2, p2, l2, s2, B2, t2, rfl, hd2, hd3, hd4, hd5, hr2⟩ := erows_at (Recs.ext HD2.out HE.out) (k := k) hlt
      have he1 := rows_at HM1.out hd1.out
      rw [rows_at HM2.out hd2.out] at he1
      injection he1 with he1
      injection he1 with he2 he3
      subst he2 he3
      have hpp : (p2 != p2) = false := by simp
      have hpp' : (p2 == p2) = true := by simp
      clear hc3 hd5
      go_wp2
      go_quiet ((go_at_call 16; exact Calls.quiet_of (same_quiet _ _ _ _ _ _ l2 _ (hr1.out.ext ((Ext.refl _).drewN _)) (hr2.out.ext ((Ext.refl _).drewN _)))))
      go_wp2
      go_roundg (gk - 1)
      case measure => omega
      case rel => exact ⟨k + 1, by omega, by go_num, HE.out.drewN _⟩
    · go_wp2
      go_ret
      exact ⟨rfl, HW3.out.trans HE.out⟩
end Go.Proofs.Ytaimljagflnfpaa
