/- The walk of laws.FnEditsRun: it returns true. The statement itself stands in the next file. -/
import Derived.Test.YtaimljagflnfpaaRecsCut
import Derived.Test.YtaimljagflnfpaaSpecEdited
namespace Go.Proofs.Ytaimljagflnfpaa
open Go.RowKit

set_option maxRecDepth 100000 in
set_option maxHeartbeats 1600000 in
theorem fnEditsRun_ok (A0 A1 A2 A3 A4 : Option Addr) (n0 n1 n2 n3 n4 c0 c1 c2 c3 c4 : Nat) (xs ops fr to_ : List Int) (vals : List (List Int)) (room : Int) (w : World) (h0 : Row w 1 A0 n0 c0 (ints xs)) (h1 : Row w 1 A1 n1 c1 (ints ops)) (h2 : Row w 1 A2 n2 c2 (ints fr)) (h3 : Row w 1 A3 n3 c3 (ints to_)) (h4 : Lists w A4 n4 c4 vals)
    (hn0 : n0 ≤ 1048576) (hn1 : n1 ≤ 1048576) (hv : vals.flatten.length ≤ 1048576) :
    Calls Try.prog 10 #[.slice A0 n0 c0, .int .i64 room, .slice A1 n1 c1, .slice A2 n2 c2, .slice A3 n3 c3, .slice A4 n4 c4] w fun e w' => e = .returned (.bool true) ∧ Ext w w' := by
  obtain ⟨R, hR⟩ := room_nat room
  have hs := script_ok A1 A2 A3 A4 n1 n2 n3 n4 c1 c2 c3 c4 ops fr to_ vals w h1 h2 h3 h4 (by omega) (by omega)
  have hev := evals_le ops fr to_ vals
  have hel := scriptP_length ops fr to_ vals
  rw [h1.ints_len] at hel
  obtain ⟨E, hE⟩ : ∃ E, E = scriptP ops fr to_ vals := ⟨_, rfl⟩
  rw [← hE] at hs hev hel
  have hxn := h0.ints_len
  have H0 := Lib.hid h0
  have HS := Lib.hid hs
  have HEV := Lib.hid hev
  have HEL := Lib.hid hel
  have HXN := Lib.hid hxn
  have HR := Lib.hid hR
  clear h0 h1 h2 h3 h4 hs hev hel hE hR hxn
  go_enter Try.func10, Try.ntmps10
  go_wp2_with fail
  refine HS.out.mono ?_
  rintro e w1 ⟨u, rfl, k1, k2⟩
  obtain ⟨C0, q0, rfl, k3⟩ := script_form k1
  rw [HEL.out] at k3 ⊢
  have HT := Lib.hid k3
  have HW1 := Lib.hid k2
  clear k1 k2 k3
  go_wp2_with fail
  refine (editsAll_ok A0 C0 n0 n1 c0 q0 xs room R E w1 (H0.out.ext HW1.out) HT.out HR.out (by have := HEV.out; omega) (by omega)).mono ?_
  rintro e w2 ⟨C1, q1, D1, rfl, k1, k2, k3, k4⟩
  have HD1 := Lib.hid k1
  have HM1 := Lib.hid k2
  have HF := Lib.hid k3
  have HW2 := Lib.hid (HW1.out.trans k4)
  have HT2 := Lib.hid (Recs.ext HT.out k4)
  clear k1 k2 k3 k4
  go_wp2
  go_loopg [15, 37] n1 (fun kx v i wr => ∃ (k N cv : Nat) (Av : Option Addr), k + kx = n1 ∧ i = .int .i64 (k : Int) ∧ v = .slice Av N cv ∧ Hid (N = (eend xs (E.take k)).length) ∧ Hid (Row wr 1 Av N cv (ints (eend xs (E.take k)))) ∧ Hid (Ext w2 wr))
  case atStart => exact ⟨0, n0, c0, A0, by omega, rfl, rfl, HXN.out.symm, H0.out.ext HW2.out, Ext.refl _⟩
  case round =>
    obtain ⟨k, N, cv, Av, hk, rfl, rfl, HN, HR1, HE⟩ := hrel
    by_cases hlt : k < n1
    · obtain ⟨b1, o1, op, i, j, vs, V, q, rfl, he, hc1, hc2, hc3, hc4, hrow⟩ := edts_at (Recs.ext HT2.out HE.out) (k := k) hlt
      obtain ⟨l, hl⟩ : ∃ l, l = eend xs (E.take k) := ⟨_, rfl⟩
      obtain ⟨g1, g2⟩ := erows_get xs E k _ he.out
      rw [← hl] at g1 g2 HN HR1
      have hll : N + vs.length ≤ 2097152 := by
        have h1 := eend_length xs (E.take k)
        rw [← hl, ← HN.out, HXN.out] at h1
        have h2 := evals_take E (k + 1)
        rw [take_snoc he.out, evals_append] at h2
        simp only [evals] at h2
        have h3 := HEV.out
        omega
      have hsp := specEdited_ok Av N cv l (op, i, j, vs) V q _ (HR1.out.alloc (.cells #[.int .i64 op, .int .i64 i, .int .i64 j, .slice V vs.length q] 29)) (hrow.out.alloc (.cells #[.int .i64 op, .int .i64 i, .int .i64 j, .slice V vs.length q] 29)) (by omega) (by simp only; omega)
      simp only at hsp
      have HSP := Lib.hid hsp
      obtain ⟨p, hp⟩ : ∃ p, p = outP l (op, i, j, vs) := ⟨_, rfl⟩
      obtain ⟨l', hl'⟩ : ∃ l', l' = stepP l (op, i, j, vs) := ⟨_, rfl⟩
      rw [← hp, ← hl'] at g1
      rw [← hl'] at g2
      have HG1 := Lib.hid g1
      have HG2 := Lib.hid g2
      have HP := Lib.hid hp
      have HL' := Lib.hid hl'
      clear hl g1 g2 hsp hp hl'
      go_wp2_with fail
      refine HSP.out.mono ?_
      rintro e w4 ⟨C4, q4, rfl, k1, k2⟩
      rw [← HL'.out] at k1
      rw [← HP.out, ← HL'.out]
      have HR4 := Lib.hid k1
      have HE4 := Lib.hid (HE.out.trans (((Ext.refl wr).alloc _).trans k2))
      clear k1 k2
      obtain ⟨b2, o2, p2, l2, s, B1, t1, rfl, hd, hd1, hd2, hd3, hr1⟩ := erows_at (Recs.ext HD1.out HE4.out) (k := k) hlt
      have hpl := rows_at HM1.out hd.out
      rw [HG1.out] at hpl
      injection hpl with hpl
      injection hpl with hq1 hq2
      subst hq1 hq2
      have hpp : (p != p) = false := by simp
      have hpp' : (p == p) = true := by simp
      go_wp2_with fail
      refine (same_true B1 C4 l'.length l'.length t1 q4 l' w4 hr1.out HR4.out).mono ?_
      rintro e w5 ⟨rfl, k1⟩
      have HE5 := Lib.hid k1
      clear k1
      go_wp2
      go_roundg (gk - 1)
      case measure => omega
      case rel => exact ⟨k + 1, l'.length, q4, C4, by omega, by go_num, rfl, by rw [HG2.out]; exact Lib.hid rfl, by rw [HG2.out]; exact HR4.out.ext HE5.out, HE4.out.trans HE5.out⟩
    · go_wp2
      go_ret
      exact ⟨rfl, HW2.out.trans HE.out⟩
end Go.Proofs.Ytaimljagflnfpaa
