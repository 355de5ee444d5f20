/- The walk of laws.FnEditsSame: it returns true. The statement itself stands in the next file. -/
import Derived.Test.YtaimljagflnfpaaRecsCut
namespace Go.Proofs.Ytaimljagflnfpaa
open Go.RowKit

theorem cutP_of {l vs : List Int} {i j : Int} (h : (cutP l i j vs).isNone = false) : 0 ≤ i ∧ i ≤ j ∧ j ≤ (l.length : Int) := by
  unfold cutP at h
  split at h
  · assumption
  · cases h

set_option maxRecDepth 100000 in
set_option maxHeartbeats 6400000 in
theorem fnEditsSame_ok (A0 A1 A2 A3 A4 : Option Addr) (n0 n1 n2 n3 n4 c0 c1 c2 c3 c4 : Nat) (xs ops fr to_ : List Int) (vals : List (List Int)) (room : Int) (w : World) (h0 : Row w 1 A0 n0 c0 (ints xs)) (h1 : Row w 1 A1 n1 c1 (ints ops)) (h2 : Row w 1 A2 n2 c2 (ints fr)) (h3 : Row w 1 A3 n3 c3 (ints to_)) (h4 : Lists w A4 n4 c4 vals)
    (hn0 : n0 ≤ 1048576) (hn1 : n1 ≤ 1048576) (hv : vals.flatten.length ≤ 1048576) :
    Calls Try.prog 11 #[.slice A0 n0 c0, .int .i64 room, .slice A1 n1 c1, .slice A2 n2 c2, .slice A3 n3 c3, .slice A4 n4 c4] w fun e w' => e = .returned (.bool true) ∧ Ext w w' := by
  obtain ⟨R, hR⟩ := room_nat room
  have hs := script_ok A1 A2 A3 A4 n1 n2 n3 n4 c1 c2 c3 c4 ops fr to_ vals w h1 h2 h3 h4 (by omega) (by omega)
  have hev := evals_le ops fr to_ vals
  have hel := scriptP_length ops fr to_ vals
  rw [h1.ints_len] at hel
  obtain ⟨E, hE⟩ : ∃ E, E = scriptP ops fr to_ vals := ⟨_, rfl⟩
  rw [← hE] at hs hev hel
  have hxn := h0.ints_len
  have H0 := Lib.hid h0
  have HS := Lib.hid hs
  have HEV := Lib.hid hev
  have HEL := Lib.hid hel
  have HXN := Lib.hid hxn
  have HR := Lib.hid hR
  clear h0 h1 h2 h3 h4 hs hev hel hE hR hxn
  go_enter Try.func11, Try.ntmps11
  go_wp2_with fail
  refine HS.out.mono ?_
  rintro e w1 ⟨u, rfl, k1, k2⟩
  obtain ⟨C0, q0, rfl, k3⟩ := script_form k1
  rw [HEL.out] at k3 ⊢
  have HT := Lib.hid k3
  have HW1 := Lib.hid k2
  clear k1 k2 k3
  go_wp2_with fail
  refine (editsAll_ok A0 C0 n0 n1 c0 q0 xs room R E w1 (H0.out.ext HW1.out) HT.out HR.out (by have := HEV.out; omega) (by omega)).mono ?_
  rintro e w2 ⟨C1, q1, D1, rfl, k1, k2, k3, k4⟩
  have HD1 := Lib.hid k1
  have HM1 := Lib.hid k2
  have HF := Lib.hid k3
  have HW2 := Lib.hid (HW1.out.trans k4)
  have HT2 := Lib.hid (Recs.ext HT.out k4)
  clear k1 k2 k3 k4
  go_wp2
  go_loopg [15, 37] n1 (fun kx v i wr => ∃ (k N cv : Nat) (Av : Option Addr), k + kx = n1 ∧ i = .int .i64 (k : Int) ∧ v = .slice Av N cv ∧ Hid (N = (eend xs (E.take k)).length) ∧ Hid (Ext w2 wr))
  case atStart => exact ⟨0, n0, c0, A0, by omega, rfl, rfl, HXN.out.symm, Ext.refl _⟩
  case round =>
    obtain ⟨k, N, cv, Av, hk, rfl, rfl, HN, HE⟩ := hrel
    by_cases hlt : k < n1
    · obtain ⟨b1, o1, op, i, j, vs, V, q, rfl, he, hc1, hc2, hc3, hc4, hrow⟩ := edts_at (Recs.ext HT2.out HE.out) (k := k) hlt
      obtain ⟨b2, o2, p, l', s, B1, t1, rfl, hd, hd1, hd2, hd3, hr1⟩ := erows_at (Recs.ext HD1.out HE.out) (k := k) hlt
      have hd1' := fun o => cell_alloc_some hd1 o
      have hd2' := fun o => cell_alloc_some hd2 o
      have hd3' := fun o => cell_alloc_some hd3 o
      obtain ⟨l, hl⟩ : ∃ l, l = eend xs (E.take k) := ⟨_, rfl⟩
      have hfl := HF.out k _ _ hd.out he.out
      obtain ⟨g1, g2⟩ := erows_get xs E k _ he.out
      have hpl := rows_at HM1.out hd.out
      rw [g1] at hpl
      injection hpl with hpl
      injection hpl with hp hl'
      rw [← hl] at hfl hp hl' g2
      rw [hl'] at g2
      rw [← hl] at HN
      have HL := Lib.hid hl
      have HFL := Lib.hid hfl
      have HP := Lib.hid hp
      have HG := Lib.hid g2
      have hvm : vs.length ≤ 9223372036854775807 := by have h := hrow.out.lim; unfold maxLen at h; omega
      clear hl hfl g1 hp hl' g2 hd1 hd2 hd3
      by_cases hN0 : N = 0
      · have hI : ¬ (0 : Int) < (N : Int) := by omega
        have hde : decide (0 < N) = false := decide_eq_false (by omega)
        have HN0 := Lib.hid hN0
        clear hN0
        go_wp2
        go_roundg (gk - 1)
        case measure => omega
        case rel => exact ⟨k + 1, l'.length, t1, B1, by omega, by go_num, rfl, by rw [HG.out]; exact Lib.hid rfl, (HE.out.alloc _).alloc _⟩
      have hI : (0 : Int) < (N : Int) := by omega
      have hde : decide (0 < N) = true := decide_eq_true (by omega)
      by_cases hM0 : l'.length = 0
      · have hI' : ¬ (0 : Int) < (l'.length : Int) := by omega
        have hde' : decide (0 < l'.length) = false := decide_eq_false (by omega)
        have HM0 := Lib.hid hM0
        clear hM0
        go_wp2
        go_roundg (gk - 1)
        case measure => omega
        case rel => exact ⟨k + 1, l'.length, t1, B1, by omega, by go_num, rfl, by rw [HG.out]; exact Lib.hid rfl, (HE.out.alloc _).alloc _⟩
      have hI' : (0 : Int) < (l'.length : Int) := by omega
      have hde' : decide (0 < l'.length) = true := decide_eq_true (by omega)
      cases p with
      | true =>
        go_wp2
        go_roundg (gk - 1)
        case measure => omega
        case rel => exact ⟨k + 1, l'.length, t1, B1, by omega, by go_num, rfl, by rw [HG.out]; exact Lib.hid rfl, (HE.out.alloc _).alloc _⟩
      | false =>
        have hlne : l ≠ [] := fun h => hN0 (by rw [HN.out, h]; rfl)
        have hlne' : l' ≠ [] := fun h => hM0 (by rw [h]; rfl)
        obtain ⟨f1, f2⟩ := HFL.out rfl hlne hlne'
        have HN0 := Lib.hid hN0
        have HM0 := Lib.hid hM0
        have F1 := Lib.hid f1
        have F2 := Lib.hid f2
        clear hN0 hM0 hlne hlne' f1 f2
        by_cases h1 : op = 1
        · subst h1
          obtain rfl : s = true := F1.out (.inl rfl)
          go_wp2
          go_roundg (gk - 1)
          case measure => omega
          case rel => exact ⟨k + 1, l'.length, t1, B1, by omega, by go_num, rfl, by rw [HG.out]; exact Lib.hid rfl, (HE.out.alloc _).alloc _⟩
        by_cases h3 : op = 3
        · subst h3
          obtain rfl : s = true := F1.out (.inr (.inl rfl))
          go_wp2
          go_roundg (gk - 1)
          case measure => omega
          case rel => exact ⟨k + 1, l'.length, t1, B1, by omega, by go_num, rfl, by rw [HG.out]; exact Lib.hid rfl, (HE.out.alloc _).alloc _⟩
        by_cases h4 : op = 4
        · subst h4
          obtain rfl : s = false := F2.out rfl
          by_cases hk0 : k = 0
          · have hkb : ((k : Int) == 0) = true := by simp; omega
            have HK0 := Lib.hid hk0
            clear hk0
            go_wp2
            go_roundg (gk - 1)
            case measure => omega
            case rel => exact ⟨k + 1, l'.length, t1, B1, by omega, by go_num, rfl, by rw [HG.out]; exact Lib.hid rfl, (HE.out.alloc _).alloc _⟩
          · have hkb : ((k : Int) == 0) = false := by simp; omega
            have HK0 := Lib.hid hk0
            clear hk0
            go_wp2
            go_roundg (gk - 1)
            case measure => omega
            case rel => exact ⟨k + 1, l'.length, t1, B1, by omega, by go_num, rfl, by rw [HG.out]; exact Lib.hid rfl, (HE.out.alloc _).alloc _⟩
        by_cases h2 : op = 2
        · subst h2
          have hpb := HP.out
          unfold outP at hpb
          rw [editP_2] at hpb
          obtain ⟨b0, b1', b2'⟩ := cutP_of hpb
          have hNl : (l.length : Int) = N := by rw [HN.out]
          clear hpb
          have hb3 : j ≤ 9223372036854775807 := by
            have h1 := eend_length xs (E.take k)
            have h2 := evals_take E k
            have h3 := HEV.out
            have h4 := HXN.out
            have h5 := HL.out
            rw [← h5] at h1
            omega
          by_cases hst : (vs.length : Int) ≤ j - i
          · obtain rfl : s = true := F1.out (.inr (.inr (.inl ⟨rfl, hst⟩)))
            clear b2' hNl
            go_wp2
            go_roundg (gk - 1)
            case measure => omega
            case rel => exact ⟨k + 1, l'.length, t1, B1, by omega, by go_num, rfl, by rw [HG.out]; exact Lib.hid rfl, (HE.out.alloc _).alloc _⟩
          · clear b2' hNl
            by_cases hk0 : k = 0
            · have hkb : ((k : Int) == 0) = true := by simp; omega
              have HK0 := Lib.hid hk0
              clear hk0
              go_wp2
              go_roundg (gk - 1)
              case measure => omega
              case rel => exact ⟨k + 1, l'.length, t1, B1, by omega, by go_num, rfl, by rw [HG.out]; exact Lib.hid rfl, (HE.out.alloc _).alloc _⟩
            · have hkb : ((k : Int) == 0) = false := by simp; omega
              have HK0 := Lib.hid hk0
              clear hk0
              go_wp2
              go_roundg (gk - 1)
              case measure => omega
              case rel => exact ⟨k + 1, l'.length, t1, B1, by omega, by go_num, rfl, by rw [HG.out]; exact Lib.hid rfl, (HE.out.alloc _).alloc _⟩
        have h1b : (op == 1) = false := by simpa using h1
        have h3b : (op == 3) = false := by simpa using h3
        have h4b : (op == 4) = false := by simpa using h4
        have h2b : (op == 2) = false := by simpa using h2
        by_cases h0 : op = 0
        · subst h0
          clear h1b h3b h4b h2b h1 h2 h3 h4
          by_cases hk0 : k = 0
          · have hkb : ((k : Int) == 0) = true := by simp; omega
            by_cases hst : (vs.length : Int) ≤ room
            · by_cases hst2 : room ≤ 1000
              · obtain rfl : s = true := F1.out (.inr (.inr (.inr ⟨rfl, hk0, by have := HR.out; simp only; omega⟩)))
                have HK0 := Lib.hid hk0
                clear hk0
                go_wp2
                go_roundg (gk - 1)
                case measure => omega
                case rel => exact ⟨k + 1, l'.length, t1, B1, by omega, by go_num, rfl, by rw [HG.out]; exact Lib.hid rfl, (HE.out.alloc _).alloc _⟩
              · have HK0 := Lib.hid hk0
                clear hk0
                go_wp2
                go_roundg (gk - 1)
                case measure => omega
                case rel => exact ⟨k + 1, l'.length, t1, B1, by omega, by go_num, rfl, by rw [HG.out]; exact Lib.hid rfl, (HE.out.alloc _).alloc _⟩
            · have HK0 := Lib.hid hk0
              clear hk0
              go_wp2
              go_roundg (gk - 1)
              case measure => omega
              case rel => exact ⟨k + 1, l'.length, t1, B1, by omega, by go_num, rfl, by rw [HG.out]; exact Lib.hid rfl, (HE.out.alloc _).alloc _⟩
          · have hkb : ((k : Int) == 0) = false := by simp; omega
            have HK0 := Lib.hid hk0
            clear hk0
            go_wp2
            go_roundg (gk - 1)
            case measure => omega
            case rel => exact ⟨k + 1, l'.length, t1, B1, by omega, by go_num, rfl, by rw [HG.out]; exact Lib.hid rfl, (HE.out.alloc _).alloc _⟩
        have h0b : (op == 0) = false := by simpa using h0
        clear h0 h1 h2 h3 h4
        by_cases hk0 : k = 0
        · have hkb : ((k : Int) == 0) = true := by simp; omega
          have HK0 := Lib.hid hk0
          clear hk0
          go_wp2
          go_roundg (gk - 1)
          case measure => omega
          case rel => exact ⟨k + 1, l'.length, t1, B1, by omega, by go_num, rfl, by rw [HG.out]; exact Lib.hid rfl, (HE.out.alloc _).alloc _⟩
        · have hkb : ((k : Int) == 0) = false := by simp; omega
          have HK0 := Lib.hid hk0
          clear hk0
          go_wp2
          go_roundg (gk - 1)
          case measure => omega
          case rel => exact ⟨k + 1, l'.length, t1, B1, by omega, by go_num, rfl, by rw [HG.out]; exact Lib.hid rfl, (HE.out.alloc _).alloc _⟩
    · go_wp2
      go_ret
      exact ⟨rfl, HW2.out.trans HE.out⟩
end Go.Proofs.Ytaimljagflnfpaa
