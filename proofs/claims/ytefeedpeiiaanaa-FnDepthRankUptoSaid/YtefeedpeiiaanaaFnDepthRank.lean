/- The walk of laws.FnDepthRank. No statement of the seat is proved here. -/
import Derived.Test.YtefeedpeiiaanaaDepth
namespace Go.Proofs.Ytefeedpeiiaanaa
open Go.RowKit

set_option maxRecDepth 100000 in
set_option maxHeartbeats 12800000 in
theorem fnDepthRank_ok (A0 A1 A2 A3 A4 A5 : Option Addr) (n0 n1 n2 n3 n4 n5 c0 c1 c2 c3 c4 c5 : Nat) (x0 x1 x2 x3 x4 x5 : List Int) (w : World) (h0 : Row w 1 A0 n0 c0 (ints x0)) (h1 : Row w 1 A1 n1 c1 (ints x1)) (h2 : Row w 1 A2 n2 c2 (ints x2)) (h3 : Row w 1 A3 n3 c3 (ints x3)) (h4 : Row w 1 A4 n4 c4 (ints x4)) (h5 : Row w 1 A5 n5 c5 (ints x5)) (hs : n0 ≤ 1073741824) (hs2 : n2 ≤ 1073741824) :
    Calls Try.prog 4 #[.slice A0 n0 c0, .slice A1 n1 c1, .slice A2 n2 c2, .slice A3 n3 c3, .slice A4 n4 c4, .slice A5 n5 c5] w fun e w' => e = .returned (.bool true) ∧ Ext w w' := by
  have H0 := Lib.hid h0
  have H1 := Lib.hid h1
  have hxl : (x0.zip x1).length ≤ 1073741824 := by rw [List.length_zip, h0.ints_len]; omega
  have hzl := zip4_length x2 x3 x4 x5
  rw [h2.ints_len] at hzl
  have hTl : (zip4 x2 x3 x4 x5).length ≤ 1073741824 := by omega
  have hst := steps_ok A2 A3 A4 A5 n2 n3 n4 n5 c2 c3 c4 c5 x2 x3 x4 x5 w h2 h3 h4 h5 (by omega)
  generalize zip4 x2 x3 x4 x5 = T at hst hTl
  generalize hTm : T.length = m at hst hTl
  have HTM := Lib.hid hTm
  have HST := Lib.hid hst
  clear hst hTm hzl h0 h1 h2 h3 h4 h5
  go_enter Try.func4, Try.ntmps4
  go_wp2_with fail
  refine HST.out.mono ?_
  rintro e w1 ⟨B1, q1, rfl, hr1, hx1⟩
  have HR1 := Lib.hid hr1
  have HX1 := Lib.hid hx1
  clear hr1 hx1
  go_wp2_with fail
  refine (items_ok A0 A1 n0 n1 c0 c1 x0 x1 w1 (H0.out.ext HX1.out) (H1.out.ext HX1.out) (by omega)).mono ?_
  rintro e w2 ⟨B2, q2, rfl, hr2, hx2⟩
  generalize x0.zip x1 = xs at hr2 hxl
  have HR2 := Lib.hid hr2
  have HX2 := Lib.hid hx2
  clear hr2 hx2
  go_wp2_with fail
  refine (queueAll_ok B2 B1 _ _ q2 q1 xs T w2 HR2.out (HR1.out.ext HX2.out) (by omega) (by omega)).mono ?_
  rintro e w3 ⟨B3, q3, rfl, hr3, hx3⟩
  have HR3 := Lib.hid hr3
  have HEX := Lib.hid (HX1.out.trans (HX2.out.trans hx3))
  have HAL := Lib.hid (all_like xs T)
  have HQS : Hid (∀ d ∈ qall xs T, d.2.2.length ≤ 2147483648) := Lib.hid fun d hd => Nat.le_trans (qall_small hxl (by rw [HTM.out]; exact hTl) d hd) (by omega)
  clear hr3 hx3
  have sw : IntKind.i64.wrap ((m : Int) + 1) = (m : Int) + 1 := IntWalk.i64_in _ (by omega)
  have sb : (((m : Int) + 1) != ((m : Int) + 1)) = false := by simp
  go_wp2_with fail
  clear sw sb
  go_loopg [43] (m + 1) (fun kx s wr => ∃ i : Nat, s = .int .i64 (i : Int) ∧ i + kx = m + 1 ∧ Hid (Ext w3 wr))
  case atStart => exact ⟨0, rfl, by omega, Ext.refl _⟩
  case round =>
    obtain ⟨r, rfl, hrk, HE⟩ := hrel
    by_cases hrm : r < m + 1
    · obtain ⟨b3, o3, is1, u1, u2, M, C1, r1, rfl, hl1, a0, a1, a2, a3, HA⟩ := (HR3.out.ext HE.out).at_ (k := r) hrm
      have hhp : Heap M := by
        have hke : r < (kall xs T).length := by rw [kall_length, HTM.out]; exact hrm
        have h := HAL.out r _ _ hl1.out (List.getElem?_eq_getElem hke)
        exact h.2.2.2.1
      have hNl : M.length ≤ 2147483648 := HQS.out _ (List.mem_of_getElem? hl1.out)
      obtain ⟨N, hN⟩ : ∃ N, N = M.length := ⟨_, rfl⟩
      rw [← hN] at a3 HA hNl
      have HN1 := Lib.hid hN
      have HHP := Lib.hid hhp
      have a2' : wr.cell? ⟨b3, o3 + r * 4 + 2, none⟩ = some (.int .i64 u2) := a2
      clear hhp hN hl1 a2
      have d44 : decide ((r : Int) < (m : Int) + 1) = true := by simp; omega
      have HE2 : Hid (Ext w3 (wr.alloc (.cells #[.bool is1, .int .i64 u1, .int .i64 u2, .slice C1 N r1] 34))) := HE.out.alloc _
      have HAW : Hid (Row (wr.alloc (.cells #[.bool is1, .int .i64 u1, .int .i64 u2, .slice C1 N r1] 34)) 2 C1 N r1 (its M)) := HA.out.alloc _
      have g0 : (wr.alloc (.cells #[.bool is1, .int .i64 u1, .int .i64 u2, .slice C1 N r1] 34)).cell? ⟨wr.heap.size, 3, none⟩ = some (.slice C1 N r1) := by go_simp
      have G0 := Lib.hid g0
      clear g0
      go_wp2
      generalize wr.alloc (.cells #[.bool is1, .int .i64 u1, .int .i64 u2, .slice C1 N r1] 34) = W1 at HE2 HAW G0
      obtain ⟨wo, rfl⟩ : ∃ wo : World, wo = wr := ⟨_, rfl⟩
      clear a0 a1 a2' a3
      go_loopg [50] N (fun kx s wr => ∃ i : Nat, s = .int .i64 (i : Int) ∧ i + kx = N ∧ Hid (Ext W1 wr))
      case atStart => exact ⟨0, rfl, by omega, Ext.refl _⟩
      case round =>
        obtain ⟨i, rfl, hik, HEi⟩ := hrel
        by_cases hiN : i < N
        · obtain ⟨d, p, y1, y2, rfl, hxk, hc1, hc2⟩ := (HAW.out.ext HEi.out).item_at (k := i) hiN
          have HXA := Lib.hid (at0_of hxk.out)
          have HAB : Hid (dep i ≤ cnt (pA M i) N) := by have := above_ok HHP.out (i := i) (by rw [← HN1.out]; exact hiN); rw [← HN1.out] at this; exact this
          have HBB : Hid (cnt (pN i) N ≤ cnt (pB M i) N) := by have := below_ok HHP.out i; rw [← HN1.out] at this; exact this
          obtain ⟨x1, hx1e⟩ : ∃ x1, x1 = y1 := ⟨_, rfl⟩
          obtain ⟨x2, hx2e⟩ : ∃ x2, x2 = y2 := ⟨_, rfl⟩
          subst hx1e hx2e
          have k0 := cell_alloc_some (HEi.out.cell_some G0.out) (.cells #[.int .i64 x1, .int .i64 x2] 28)
          have g1 : (wr.alloc (.cells #[.int .i64 x1, .int .i64 x2] 28)).heap[wr.heap.size]? = some (.cells #[.int .i64 x1, .int .i64 x2] 28 (0, 0)) := heap_alloc_new wr _
          have HG1 := Lib.hid g1
          have HEi2 : Hid (Ext W1 (wr.alloc (.cells #[.int .i64 x1, .int .i64 x2] 28))) := HEi.out.alloc _
          clear hxk g1
          go_wp2
          clear k0
          generalize wr.alloc (.cells #[.int .i64 x1, .int .i64 x2] 28) = W2 at HEi2 HG1
          clear hc1 hc2
          obtain ⟨wi, rfl⟩ : ∃ wi : World, wi = wr := ⟨_, rfl⟩
          go_loopg [58, 19, 20, 21] N (fun kx s sa sb sn wr => ∃ k : Nat, s = .int .i64 (k : Int) ∧ k + kx = N ∧ sa = .int .i64 (cnt (pA M i) k : Int) ∧ sb = .int .i64 (cnt (pB M i) k : Int) ∧ sn = .int .i64 (cnt (pN i) k : Int) ∧ Hid (Ext W2 wr))
          case atStart => exact ⟨0, rfl, by omega, rfl, rfl, rfl, Ext.refl _⟩
          case round =>
            obtain ⟨k, rfl, hkk, rfl, rfl, rfl, HEk⟩ := hrel
            have ca := cnt_le (pA M i) k
            have cb := cnt_le (pB M i) k
            have cn := cnt_le (pN i) k
            by_cases hkN : k < N
            · obtain ⟨d', p', y1, y2, hbo, hyk, hc1, hc2⟩ := (HAW.out.ext (HEi2.out.trans HEk.out)).item_at (k := k) hkN
              injection hbo with hbo
              injection hbo with hbo1 hbo2
              subst hbo1 hbo2
              have hyA := at0_of hyk.out
              have hxA := HXA.out
              have gx := blk_ext ((Ext.refl wr).alloc (.cells #[.int .i64 y1, .int .i64 y2] 28)) (blk_ext HEk.out HG1.out)
              have v0 : (wr.alloc (.cells #[.int .i64 y1, .int .i64 y2] 28)).cell? ⟨wi.heap.size, 0, none⟩ = some (.int .i64 x1) := by simp [World.cell?, gx]
              have v1 : (wr.alloc (.cells #[.int .i64 y1, .int .i64 y2] 28)).cell? ⟨wi.heap.size, 1, none⟩ = some (.int .i64 x2) := by simp [World.cell?, gx]
              have HEW : Hid (Ext W2 (wr.alloc (.cells #[.int .i64 y1, .int .i64 y2] 28))) := HEk.out.alloc _
              clear gx hyk
              by_cases hki : k = i
              · subst hki
                obtain ⟨rfl, rfl⟩ : y1 = x1 ∧ y2 = x2 := by rw [hyA] at hxA; simpa using hxA
                have HPN : Hid (pN k k = false) := by unfold Hid; simp [pN]
                have hki : True := trivial
                have HPA : Hid (pA M k k = false) := by unfold Hid; simp [pA]
                have HPB : Hid (pB M k k = false) := by unfold Hid; simp [pB]
                have HCA : Hid (cnt (pA M k) (k + 1) = cnt (pA M k) k) := by unfold Hid; rw [cnt, HPA.out]; simp
                have HCB : Hid (cnt (pB M k) (k + 1) = cnt (pB M k) k) := by unfold Hid; rw [cnt, HPB.out]; simp
                have HCN : Hid (cnt (pN k) (k + 1) = cnt (pN k) k) := by unfold Hid; rw [cnt, HPN.out]; simp
                clear hyA hxA
                go_wp2
                go_loopg [24] k (fun kx s wz => ∃ u : Nat, s = .int .i64 (u : Int) ∧ u ≤ kx ∧ u ≤ k ∧ Hid (upF u k = upF k k) ∧ wz = wr.alloc (.cells #[.int .i64 y1, .int .i64 y2] 28))
                case atStart => exact ⟨k, rfl, Nat.le_refl _, Nat.le_refl _, rfl, rfl⟩
                case round =>
                  obtain ⟨u, rfl, huk, hul, HUU, rfl⟩ := hrel
                  by_cases hui : k < u
                  · have hq : ((u : Int) - 1) / 2 = (((u - 1) / 2 : Nat) : Int) := by omega
                    have hq2 : ((u : Int) - 1).tdiv 2 = (((u - 1) / 2 : Nat) : Int) := by rw [Int.tdiv_eq_ediv_of_nonneg (by omega)]; exact hq
                    have HU2 : Hid (upF ((u - 1) / 2) k = upF k k) := by have h := HUU.out; rw [upF_step hui] at h; exact h
                    go_wp2
                    go_roundg (gk - 1)
                    case measure => omega
                    case rel => exact ⟨(u - 1) / 2, rfl, by omega, by omega, HU2.out, rfl⟩
                  · have HU3 : Hid (upF k k = u) := by have h := HUU.out; rw [upF_stop hui] at h; exact h.symm
                    go_wp2
                    go_roundg (N - (k + 1))
                    case measure => omega
                    case rel => exact ⟨k + 1, by go_num, by omega, by rw [HCA.out], by rw [HCB.out], by rw [HCN.out], HEW.out⟩
              · have hki2 : ¬ (k : Int) = (i : Int) := by omega
                rcases Int.lt_trichotomy y1 x1 with hlt | heq | hgt
                · have e1 : ¬ x1 < y1 := by omega
                  have e2 : ¬ y1 = x1 := by omega
                  by_cases hup : upF k i = i
                  · have HPN : Hid (pN i k = true) := by unfold Hid; simp only [pN, hup]; simp; omega
                    have HUP := Lib.hid hup
                    clear hup
                    have HPA : Hid (pA M i k = true) := by unfold Hid; simp only [pA, hyA, hxA]; rw [leP_t (by omega)]; simp; omega
                    have HPB : Hid (pB M i k = false) := by unfold Hid; simp only [pB, hyA, hxA]; rw [leP_f (by omega)]; simp
                    have HCA : Hid (cnt (pA M i) (k + 1) = cnt (pA M i) k + 1) := by unfold Hid; rw [cnt, HPA.out]; simp
                    have HCB : Hid (cnt (pB M i) (k + 1) = cnt (pB M i) k) := by unfold Hid; rw [cnt, HPB.out]; simp
                    have HCN : Hid (cnt (pN i) (k + 1) = cnt (pN i) k + 1) := by unfold Hid; rw [cnt, HPN.out]; simp
                    clear hyA hxA
                    go_wp2
                    go_loopg [24] k (fun kx s wz => ∃ u : Nat, s = .int .i64 (u : Int) ∧ u ≤ kx ∧ u ≤ k ∧ Hid (upF u i = upF k i) ∧ wz = wr.alloc (.cells #[.int .i64 y1, .int .i64 y2] 28))
                    case atStart => exact ⟨k, rfl, Nat.le_refl _, Nat.le_refl _, rfl, rfl⟩
                    case round =>
                      obtain ⟨u, rfl, huk, hul, HUU, rfl⟩ := hrel
                      by_cases hui : i < u
                      · have hq : ((u : Int) - 1) / 2 = (((u - 1) / 2 : Nat) : Int) := by omega
                        have hq2 : ((u : Int) - 1).tdiv 2 = (((u - 1) / 2 : Nat) : Int) := by rw [Int.tdiv_eq_ediv_of_nonneg (by omega)]; exact hq
                        have HU2 : Hid (upF ((u - 1) / 2) i = upF k i) := by have h := HUU.out; rw [upF_step hui] at h; exact h
                        go_wp2
                        go_roundg (gk - 1)
                        case measure => omega
                        case rel => exact ⟨(u - 1) / 2, rfl, by omega, by omega, HU2.out, rfl⟩
                      · have HU3 : Hid (upF k i = u) := by have h := HUU.out; rw [upF_stop hui] at h; exact h.symm
                        obtain rfl : u = i := by rw [← HU3.out]; exact HUP.out
                        go_wp2
                        go_roundg (N - (k + 1))
                        case measure => omega
                        case rel => exact ⟨k + 1, by go_num, by omega, by rw [HCA.out]; go_num, by rw [HCB.out], by rw [HCN.out]; go_num, HEW.out⟩
                  · have HPN : Hid (pN i k = false) := by unfold Hid; simp only [pN]; simp [hup]
                    have HUP := Lib.hid hup
                    clear hup
                    have HPA : Hid (pA M i k = true) := by unfold Hid; simp only [pA, hyA, hxA]; rw [leP_t (by omega)]; simp; omega
                    have HPB : Hid (pB M i k = false) := by unfold Hid; simp only [pB, hyA, hxA]; rw [leP_f (by omega)]; simp
                    have HCA : Hid (cnt (pA M i) (k + 1) = cnt (pA M i) k + 1) := by unfold Hid; rw [cnt, HPA.out]; simp
                    have HCB : Hid (cnt (pB M i) (k + 1) = cnt (pB M i) k) := by unfold Hid; rw [cnt, HPB.out]; simp
                    have HCN : Hid (cnt (pN i) (k + 1) = cnt (pN i) k) := by unfold Hid; rw [cnt, HPN.out]; simp
                    clear hyA hxA
                    go_wp2
                    go_loopg [24] k (fun kx s wz => ∃ u : Nat, s = .int .i64 (u : Int) ∧ u ≤ kx ∧ u ≤ k ∧ Hid (upF u i = upF k i) ∧ wz = wr.alloc (.cells #[.int .i64 y1, .int .i64 y2] 28))
                    case atStart => exact ⟨k, rfl, Nat.le_refl _, Nat.le_refl _, rfl, rfl⟩
                    case round =>
                      obtain ⟨u, rfl, huk, hul, HUU, rfl⟩ := hrel
                      by_cases hui : i < u
                      · have hq : ((u : Int) - 1) / 2 = (((u - 1) / 2 : Nat) : Int) := by omega
                        have hq2 : ((u : Int) - 1).tdiv 2 = (((u - 1) / 2 : Nat) : Int) := by rw [Int.tdiv_eq_ediv_of_nonneg (by omega)]; exact hq
                        have HU2 : Hid (upF ((u - 1) / 2) i = upF k i) := by have h := HUU.out; rw [upF_step hui] at h; exact h
                        go_wp2
                        go_roundg (gk - 1)
                        case measure => omega
                        case rel => exact ⟨(u - 1) / 2, rfl, by omega, by omega, HU2.out, rfl⟩
                      · have HU3 : Hid (upF k i = u) := by have h := HUU.out; rw [upF_stop hui] at h; exact h.symm
                        have hun : ¬ u = i := fun e => HUP.out (by rw [HU3.out]; exact e)
                        go_wp2
                        go_roundg (N - (k + 1))
                        case measure => omega
                        case rel => exact ⟨k + 1, by go_num, by omega, by rw [HCA.out]; go_num, by rw [HCB.out], by rw [HCN.out], HEW.out⟩
                · subst heq
                  have e1 : ¬ y1 < y1 := by omega
                  rcases Int.lt_trichotomy y2 x2 with hlt | heq | hgt
                  · have e3 : ¬ x2 ≤ y2 := by omega
                    have e4 : y2 ≤ x2 := by omega
                    by_cases hup : upF k i = i
                    · have HPN : Hid (pN i k = true) := by unfold Hid; simp only [pN, hup]; simp; omega
                      have HUP := Lib.hid hup
                      clear hup
                      have HPA : Hid (pA M i k = true) := by unfold Hid; simp only [pA, hyA, hxA]; rw [leP_t (by omega)]; simp; omega
                      have HPB : Hid (pB M i k = false) := by unfold Hid; simp only [pB, hyA, hxA]; rw [leP_f (by omega)]; simp
                      have HCA : Hid (cnt (pA M i) (k + 1) = cnt (pA M i) k + 1) := by unfold Hid; rw [cnt, HPA.out]; simp
                      have HCB : Hid (cnt (pB M i) (k + 1) = cnt (pB M i) k) := by unfold Hid; rw [cnt, HPB.out]; simp
                      have HCN : Hid (cnt (pN i) (k + 1) = cnt (pN i) k + 1) := by unfold Hid; rw [cnt, HPN.out]; simp
                      clear hyA hxA
                      go_wp2
                      go_loopg [24] k (fun kx s wz => ∃ u : Nat, s = .int .i64 (u : Int) ∧ u ≤ kx ∧ u ≤ k ∧ Hid (upF u i = upF k i) ∧ wz = wr.alloc (.cells #[.int .i64 y1, .int .i64 y2] 28))
                      case atStart => exact ⟨k, rfl, Nat.le_refl _, Nat.le_refl _, rfl, rfl⟩
                      case round =>
                        obtain ⟨u, rfl, huk, hul, HUU, rfl⟩ := hrel
                        by_cases hui : i < u
                        · have hq : ((u : Int) - 1) / 2 = (((u - 1) / 2 : Nat) : Int) := by omega
                          have hq2 : ((u : Int) - 1).tdiv 2 = (((u - 1) / 2 : Nat) : Int) := by rw [Int.tdiv_eq_ediv_of_nonneg (by omega)]; exact hq
                          have HU2 : Hid (upF ((u - 1) / 2) i = upF k i) := by have h := HUU.out; rw [upF_step hui] at h; exact h
                          go_wp2
                          go_roundg (gk - 1)
                          case measure => omega
                          case rel => exact ⟨(u - 1) / 2, rfl, by omega, by omega, HU2.out, rfl⟩
                        · have HU3 : Hid (upF k i = u) := by have h := HUU.out; rw [upF_stop hui] at h; exact h.symm
                          obtain rfl : u = i := by rw [← HU3.out]; exact HUP.out
                          go_wp2
                          go_roundg (N - (k + 1))
                          case measure => omega
                          case rel => exact ⟨k + 1, by go_num, by omega, by rw [HCA.out]; go_num, by rw [HCB.out], by rw [HCN.out]; go_num, HEW.out⟩
                    · have HPN : Hid (pN i k = false) := by unfold Hid; simp only [pN]; simp [hup]
                      have HUP := Lib.hid hup
                      clear hup
                      have HPA : Hid (pA M i k = true) := by unfold Hid; simp only [pA, hyA, hxA]; rw [leP_t (by omega)]; simp; omega
                      have HPB : Hid (pB M i k = false) := by unfold Hid; simp only [pB, hyA, hxA]; rw [leP_f (by omega)]; simp
                      have HCA : Hid (cnt (pA M i) (k + 1) = cnt (pA M i) k + 1) := by unfold Hid; rw [cnt, HPA.out]; simp
                      have HCB : Hid (cnt (pB M i) (k + 1) = cnt (pB M i) k) := by unfold Hid; rw [cnt, HPB.out]; simp
                      have HCN : Hid (cnt (pN i) (k + 1) = cnt (pN i) k) := by unfold Hid; rw [cnt, HPN.out]; simp
                      clear hyA hxA
                      go_wp2
                      go_loopg [24] k (fun kx s wz => ∃ u : Nat, s = .int .i64 (u : Int) ∧ u ≤ kx ∧ u ≤ k ∧ Hid (upF u i = upF k i) ∧ wz = wr.alloc (.cells #[.int .i64 y1, .int .i64 y2] 28))
                      case atStart => exact ⟨k, rfl, Nat.le_refl _, Nat.le_refl _, rfl, rfl⟩
                      case round =>
                        obtain ⟨u, rfl, huk, hul, HUU, rfl⟩ := hrel
                        by_cases hui : i < u
                        · have hq : ((u : Int) - 1) / 2 = (((u - 1) / 2 : Nat) : Int) := by omega
                          have hq2 : ((u : Int) - 1).tdiv 2 = (((u - 1) / 2 : Nat) : Int) := by rw [Int.tdiv_eq_ediv_of_nonneg (by omega)]; exact hq
                          have HU2 : Hid (upF ((u - 1) / 2) i = upF k i) := by have h := HUU.out; rw [upF_step hui] at h; exact h
                          go_wp2
                          go_roundg (gk - 1)
                          case measure => omega
                          case rel => exact ⟨(u - 1) / 2, rfl, by omega, by omega, HU2.out, rfl⟩
                        · have HU3 : Hid (upF k i = u) := by have h := HUU.out; rw [upF_stop hui] at h; exact h.symm
                          have hun : ¬ u = i := fun e => HUP.out (by rw [HU3.out]; exact e)
                          go_wp2
                          go_roundg (N - (k + 1))
                          case measure => omega
                          case rel => exact ⟨k + 1, by go_num, by omega, by rw [HCA.out]; go_num, by rw [HCB.out], by rw [HCN.out], HEW.out⟩
                  · subst heq
                    by_cases hup : upF k i = i
                    · have HPN : Hid (pN i k = true) := by unfold Hid; simp only [pN, hup]; simp; omega
                      have HUP := Lib.hid hup
                      clear hup
                      have HPA : Hid (pA M i k = true) := by unfold Hid; simp only [pA, hyA, hxA]; rw [leP_t (by omega)]; simp; omega
                      have HPB : Hid (pB M i k = true) := by unfold Hid; simp only [pB, hyA, hxA]; rw [leP_t (by omega)]; simp; omega
                      have HCA : Hid (cnt (pA M i) (k + 1) = cnt (pA M i) k + 1) := by unfold Hid; rw [cnt, HPA.out]; simp
                      have HCB : Hid (cnt (pB M i) (k + 1) = cnt (pB M i) k + 1) := by unfold Hid; rw [cnt, HPB.out]; simp
                      have HCN : Hid (cnt (pN i) (k + 1) = cnt (pN i) k + 1) := by unfold Hid; rw [cnt, HPN.out]; simp
                      clear hyA hxA
                      go_wp2
                      go_loopg [24] k (fun kx s wz => ∃ u : Nat, s = .int .i64 (u : Int) ∧ u ≤ kx ∧ u ≤ k ∧ Hid (upF u i = upF k i) ∧ wz = wr.alloc (.cells #[.int .i64 y1, .int .i64 y2] 28))
                      case atStart => exact ⟨k, rfl, Nat.le_refl _, Nat.le_refl _, rfl, rfl⟩
                      case round =>
                        obtain ⟨u, rfl, huk, hul, HUU, rfl⟩ := hrel
                        by_cases hui : i < u
                        · have hq : ((u : Int) - 1) / 2 = (((u - 1) / 2 : Nat) : Int) := by omega
                          have hq2 : ((u : Int) - 1).tdiv 2 = (((u - 1) / 2 : Nat) : Int) := by rw [Int.tdiv_eq_ediv_of_nonneg (by omega)]; exact hq
                          have HU2 : Hid (upF ((u - 1) / 2) i = upF k i) := by have h := HUU.out; rw [upF_step hui] at h; exact h
                          go_wp2
                          go_roundg (gk - 1)
                          case measure => omega
                          case rel => exact ⟨(u - 1) / 2, rfl, by omega, by omega, HU2.out, rfl⟩
                        · have HU3 : Hid (upF k i = u) := by have h := HUU.out; rw [upF_stop hui] at h; exact h.symm
                          obtain rfl : u = i := by rw [← HU3.out]; exact HUP.out
                          go_wp2
                          go_roundg (N - (k + 1))
                          case measure => omega
                          case rel => exact ⟨k + 1, by go_num, by omega, by rw [HCA.out]; go_num, by rw [HCB.out]; go_num, by rw [HCN.out]; go_num, HEW.out⟩
                    · have HPN : Hid (pN i k = false) := by unfold Hid; simp only [pN]; simp [hup]
                      have HUP := Lib.hid hup
                      clear hup
                      have HPA : Hid (pA M i k = true) := by unfold Hid; simp only [pA, hyA, hxA]; rw [leP_t (by omega)]; simp; omega
                      have HPB : Hid (pB M i k = true) := by unfold Hid; simp only [pB, hyA, hxA]; rw [leP_t (by omega)]; simp; omega
                      have HCA : Hid (cnt (pA M i) (k + 1) = cnt (pA M i) k + 1) := by unfold Hid; rw [cnt, HPA.out]; simp
                      have HCB : Hid (cnt (pB M i) (k + 1) = cnt (pB M i) k + 1) := by unfold Hid; rw [cnt, HPB.out]; simp
                      have HCN : Hid (cnt (pN i) (k + 1) = cnt (pN i) k) := by unfold Hid; rw [cnt, HPN.out]; simp
                      clear hyA hxA
                      go_wp2
                      go_loopg [24] k (fun kx s wz => ∃ u : Nat, s = .int .i64 (u : Int) ∧ u ≤ kx ∧ u ≤ k ∧ Hid (upF u i = upF k i) ∧ wz = wr.alloc (.cells #[.int .i64 y1, .int .i64 y2] 28))
                      case atStart => exact ⟨k, rfl, Nat.le_refl _, Nat.le_refl _, rfl, rfl⟩
                      case round =>
                        obtain ⟨u, rfl, huk, hul, HUU, rfl⟩ := hrel
                        by_cases hui : i < u
                        · have hq : ((u : Int) - 1) / 2 = (((u - 1) / 2 : Nat) : Int) := by omega
                          have hq2 : ((u : Int) - 1).tdiv 2 = (((u - 1) / 2 : Nat) : Int) := by rw [Int.tdiv_eq_ediv_of_nonneg (by omega)]; exact hq
                          have HU2 : Hid (upF ((u - 1) / 2) i = upF k i) := by have h := HUU.out; rw [upF_step hui] at h; exact h
                          go_wp2
                          go_roundg (gk - 1)
                          case measure => omega
                          case rel => exact ⟨(u - 1) / 2, rfl, by omega, by omega, HU2.out, rfl⟩
                        · have HU3 : Hid (upF k i = u) := by have h := HUU.out; rw [upF_stop hui] at h; exact h.symm
                          have hun : ¬ u = i := fun e => HUP.out (by rw [HU3.out]; exact e)
                          go_wp2
                          go_roundg (N - (k + 1))
                          case measure => omega
                          case rel => exact ⟨k + 1, by go_num, by omega, by rw [HCA.out]; go_num, by rw [HCB.out]; go_num, by rw [HCN.out], HEW.out⟩
                  · have e3 : ¬ y2 ≤ x2 := by omega
                    have e4 : x2 ≤ y2 := by omega
                    by_cases hup : upF k i = i
                    · have HPN : Hid (pN i k = true) := by unfold Hid; simp only [pN, hup]; simp; omega
                      have HUP := Lib.hid hup
                      clear hup
                      have HPA : Hid (pA M i k = false) := by unfold Hid; simp only [pA, hyA, hxA]; rw [leP_f (by omega)]; simp
                      have HPB : Hid (pB M i k = true) := by unfold Hid; simp only [pB, hyA, hxA]; rw [leP_t (by omega)]; simp; omega
                      have HCA : Hid (cnt (pA M i) (k + 1) = cnt (pA M i) k) := by unfold Hid; rw [cnt, HPA.out]; simp
                      have HCB : Hid (cnt (pB M i) (k + 1) = cnt (pB M i) k + 1) := by unfold Hid; rw [cnt, HPB.out]; simp
                      have HCN : Hid (cnt (pN i) (k + 1) = cnt (pN i) k + 1) := by unfold Hid; rw [cnt, HPN.out]; simp
                      clear hyA hxA
                      go_wp2
                      go_loopg [24] k (fun kx s wz => ∃ u : Nat, s = .int .i64 (u : Int) ∧ u ≤ kx ∧ u ≤ k ∧ Hid (upF u i = upF k i) ∧ wz = wr.alloc (.cells #[.int .i64 y1, .int .i64 y2] 28))
                      case atStart => exact ⟨k, rfl, Nat.le_refl _, Nat.le_refl _, rfl, rfl⟩
                      case round =>
                        obtain ⟨u, rfl, huk, hul, HUU, rfl⟩ := hrel
                        by_cases hui : i < u
                        · have hq : ((u : Int) - 1) / 2 = (((u - 1) / 2 : Nat) : Int) := by omega
                          have hq2 : ((u : Int) - 1).tdiv 2 = (((u - 1) / 2 : Nat) : Int) := by rw [Int.tdiv_eq_ediv_of_nonneg (by omega)]; exact hq
                          have HU2 : Hid (upF ((u - 1) / 2) i = upF k i) := by have h := HUU.out; rw [upF_step hui] at h; exact h
                          go_wp2
                          go_roundg (gk - 1)
                          case measure => omega
                          case rel => exact ⟨(u - 1) / 2, rfl, by omega, by omega, HU2.out, rfl⟩
                        · have HU3 : Hid (upF k i = u) := by have h := HUU.out; rw [upF_stop hui] at h; exact h.symm
                          obtain rfl : u = i := by rw [← HU3.out]; exact HUP.out
                          go_wp2
                          go_roundg (N - (k + 1))
                          case measure => omega
                          case rel => exact ⟨k + 1, by go_num, by omega, by rw [HCA.out], by rw [HCB.out]; go_num, by rw [HCN.out]; go_num, HEW.out⟩
                    · have HPN : Hid (pN i k = false) := by unfold Hid; simp only [pN]; simp [hup]
                      have HUP := Lib.hid hup
                      clear hup
                      have HPA : Hid (pA M i k = false) := by unfold Hid; simp only [pA, hyA, hxA]; rw [leP_f (by omega)]; simp
                      have HPB : Hid (pB M i k = true) := by unfold Hid; simp only [pB, hyA, hxA]; rw [leP_t (by omega)]; simp; omega
                      have HCA : Hid (cnt (pA M i) (k + 1) = cnt (pA M i) k) := by unfold Hid; rw [cnt, HPA.out]; simp
                      have HCB : Hid (cnt (pB M i) (k + 1) = cnt (pB M i) k + 1) := by unfold Hid; rw [cnt, HPB.out]; simp
                      have HCN : Hid (cnt (pN i) (k + 1) = cnt (pN i) k) := by unfold Hid; rw [cnt, HPN.out]; simp
                      clear hyA hxA
                      go_wp2
                      go_loopg [24] k (fun kx s wz => ∃ u : Nat, s = .int .i64 (u : Int) ∧ u ≤ kx ∧ u ≤ k ∧ Hid (upF u i = upF k i) ∧ wz = wr.alloc (.cells #[.int .i64 y1, .int .i64 y2] 28))
                      case atStart => exact ⟨k, rfl, Nat.le_refl _, Nat.le_refl _, rfl, rfl⟩
                      case round =>
                        obtain ⟨u, rfl, huk, hul, HUU, rfl⟩ := hrel
                        by_cases hui : i < u
                        · have hq : ((u : Int) - 1) / 2 = (((u - 1) / 2 : Nat) : Int) := by omega
                          have hq2 : ((u : Int) - 1).tdiv 2 = (((u - 1) / 2 : Nat) : Int) := by rw [Int.tdiv_eq_ediv_of_nonneg (by omega)]; exact hq
                          have HU2 : Hid (upF ((u - 1) / 2) i = upF k i) := by have h := HUU.out; rw [upF_step hui] at h; exact h
                          go_wp2
                          go_roundg (gk - 1)
                          case measure => omega
                          case rel => exact ⟨(u - 1) / 2, rfl, by omega, by omega, HU2.out, rfl⟩
                        · have HU3 : Hid (upF k i = u) := by have h := HUU.out; rw [upF_stop hui] at h; exact h.symm
                          have hun : ¬ u = i := fun e => HUP.out (by rw [HU3.out]; exact e)
                          go_wp2
                          go_roundg (N - (k + 1))
                          case measure => omega
                          case rel => exact ⟨k + 1, by go_num, by omega, by rw [HCA.out], by rw [HCB.out]; go_num, by rw [HCN.out], HEW.out⟩
                · have e1 : ¬ y1 < x1 := by omega
                  have e2 : ¬ y1 = x1 := by omega
                  by_cases hup : upF k i = i
                  · have HPN : Hid (pN i k = true) := by unfold Hid; simp only [pN, hup]; simp; omega
                    have HUP := Lib.hid hup
                    clear hup
                    have HPA : Hid (pA M i k = false) := by unfold Hid; simp only [pA, hyA, hxA]; rw [leP_f (by omega)]; simp
                    have HPB : Hid (pB M i k = true) := by unfold Hid; simp only [pB, hyA, hxA]; rw [leP_t (by omega)]; simp; omega
                    have HCA : Hid (cnt (pA M i) (k + 1) = cnt (pA M i) k) := by unfold Hid; rw [cnt, HPA.out]; simp
                    have HCB : Hid (cnt (pB M i) (k + 1) = cnt (pB M i) k + 1) := by unfold Hid; rw [cnt, HPB.out]; simp
                    have HCN : Hid (cnt (pN i) (k + 1) = cnt (pN i) k + 1) := by unfold Hid; rw [cnt, HPN.out]; simp
                    clear hyA hxA
                    go_wp2
                    go_loopg [24] k (fun kx s wz => ∃ u : Nat, s = .int .i64 (u : Int) ∧ u ≤ kx ∧ u ≤ k ∧ Hid (upF u i = upF k i) ∧ wz = wr.alloc (.cells #[.int .i64 y1, .int .i64 y2] 28))
                    case atStart => exact ⟨k, rfl, Nat.le_refl _, Nat.le_refl _, rfl, rfl⟩
                    case round =>
                      obtain ⟨u, rfl, huk, hul, HUU, rfl⟩ := hrel
                      by_cases hui : i < u
                      · have hq : ((u : Int) - 1) / 2 = (((u - 1) / 2 : Nat) : Int) := by omega
                        have hq2 : ((u : Int) - 1).tdiv 2 = (((u - 1) / 2 : Nat) : Int) := by rw [Int.tdiv_eq_ediv_of_nonneg (by omega)]; exact hq
                        have HU2 : Hid (upF ((u - 1) / 2) i = upF k i) := by have h := HUU.out; rw [upF_step hui] at h; exact h
                        go_wp2
                        go_roundg (gk - 1)
                        case measure => omega
                        case rel => exact ⟨(u - 1) / 2, rfl, by omega, by omega, HU2.out, rfl⟩
                      · have HU3 : Hid (upF k i = u) := by have h := HUU.out; rw [upF_stop hui] at h; exact h.symm
                        obtain rfl : u = i := by rw [← HU3.out]; exact HUP.out
                        go_wp2
                        go_roundg (N - (k + 1))
                        case measure => omega
                        case rel => exact ⟨k + 1, by go_num, by omega, by rw [HCA.out], by rw [HCB.out]; go_num, by rw [HCN.out]; go_num, HEW.out⟩
                  · have HPN : Hid (pN i k = false) := by unfold Hid; simp only [pN]; simp [hup]
                    have HUP := Lib.hid hup
                    clear hup
                    have HPA : Hid (pA M i k = false) := by unfold Hid; simp only [pA, hyA, hxA]; rw [leP_f (by omega)]; simp
                    have HPB : Hid (pB M i k = true) := by unfold Hid; simp only [pB, hyA, hxA]; rw [leP_t (by omega)]; simp; omega
                    have HCA : Hid (cnt (pA M i) (k + 1) = cnt (pA M i) k) := by unfold Hid; rw [cnt, HPA.out]; simp
                    have HCB : Hid (cnt (pB M i) (k + 1) = cnt (pB M i) k + 1) := by unfold Hid; rw [cnt, HPB.out]; simp
                    have HCN : Hid (cnt (pN i) (k + 1) = cnt (pN i) k) := by unfold Hid; rw [cnt, HPN.out]; simp
                    clear hyA hxA
                    go_wp2
                    go_loopg [24] k (fun kx s wz => ∃ u : Nat, s = .int .i64 (u : Int) ∧ u ≤ kx ∧ u ≤ k ∧ Hid (upF u i = upF k i) ∧ wz = wr.alloc (.cells #[.int .i64 y1, .int .i64 y2] 28))
                    case atStart => exact ⟨k, rfl, Nat.le_refl _, Nat.le_refl _, rfl, rfl⟩
                    case round =>
                      obtain ⟨u, rfl, huk, hul, HUU, rfl⟩ := hrel
                      by_cases hui : i < u
                      · have hq : ((u : Int) - 1) / 2 = (((u - 1) / 2 : Nat) : Int) := by omega
                        have hq2 : ((u : Int) - 1).tdiv 2 = (((u - 1) / 2 : Nat) : Int) := by rw [Int.tdiv_eq_ediv_of_nonneg (by omega)]; exact hq
                        have HU2 : Hid (upF ((u - 1) / 2) i = upF k i) := by have h := HUU.out; rw [upF_step hui] at h; exact h
                        go_wp2
                        go_roundg (gk - 1)
                        case measure => omega
                        case rel => exact ⟨(u - 1) / 2, rfl, by omega, by omega, HU2.out, rfl⟩
                      · have HU3 : Hid (upF k i = u) := by have h := HUU.out; rw [upF_stop hui] at h; exact h.symm
                        have hun : ¬ u = i := fun e => HUP.out (by rw [HU3.out]; exact e)
                        go_wp2
                        go_roundg (N - (k + 1))
                        case measure => omega
                        case rel => exact ⟨k + 1, by go_num, by omega, by rw [HCA.out], by rw [HCB.out]; go_num, by rw [HCN.out], HEW.out⟩
            · obtain rfl : N = k := by omega
              have hab := HAB.out
              have hbb := HBB.out
              have dl := dep_le i
              have t1 : decide ((cnt (pA M i) N : Int) < (dep i : Int)) = false := by simp; omega
              have t2 : decide ((cnt (pB M i) N : Int) < (cnt (pN i) N : Int)) = false := by simp; omega
              go_wp2_with (go_at_call 18; refine (depth_ok i _ (by omega)).mono ?_; rintro e w' ⟨rfl, rfl⟩)
              go_roundg (N - (i + 1))
              case measure => omega
              case rel => exact ⟨i + 1, by go_num, by omega, HEi2.out.trans HEk.out⟩
        · obtain rfl : N = i := by omega
          go_wp2
          go_roundg (m - r)
          case measure => omega
          case rel => exact ⟨r + 1, by go_num, by omega, HE2.out.trans HEi.out⟩
    · obtain rfl : r = m + 1 := by omega
      go_wp2
      exact bodyPost_ret (v := .bool true) (by simp [results, Try.results4, go_sem]) rfl ⟨rfl, HEX.out.trans HE.out⟩
end Go.Proofs.Ytefeedpeiiaanaa
