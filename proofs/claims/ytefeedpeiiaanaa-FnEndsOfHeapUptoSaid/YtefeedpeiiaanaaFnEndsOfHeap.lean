/- The walk of laws.FnEndsOfHeap. No statement of the seat is proved here. -/
import Derived.Test.YtefeedpeiiaanaaFnQueueKept
import Derived.Deep.DeepCutAuto
namespace Go.Proofs.Ytefeedpeiiaanaa
open Go.RowKit

/-- What is not less than any item stands at a node that has none below it. -/
theorem heap_leaf {M : List (Int × Int)} (h : Heap M) {x : Int × Int} (hx : ∀ y ∈ M, leP y x = true) : ∀ (f i : Nat), M.length - i ≤ f → M[i]? = some x → ∃ k, M.length / 2 ≤ k ∧ k < M.length ∧ M[k]? = some x
  | 0, i, hf, hi => by
    obtain ⟨hl, _⟩ := List.getElem?_eq_some_iff.1 hi
    omega
  | f + 1, i, hf, hi => by
    obtain ⟨hl, _⟩ := List.getElem?_eq_some_iff.1 hi
    by_cases hn : M.length / 2 ≤ i
    · exact ⟨i, hn, hl, hi⟩
    · have hc : 2 * i + 1 < M.length := by omega
      have h1 := h (2 * i + 1) (by omega) hc (Nat.zero_le _)
      rw [show (2 * i + 1 - 1) / 2 = i by omega] at h1
      have h2 : at0 M i = x := by simp [at0, hi]
      have h3 : M[2 * i + 1]? = some (at0 M (2 * i + 1)) := by simp [at0, hc]
      rw [h2] at h1
      have h4 := leP_anti h1 (hx _ (List.mem_of_getElem? h3))
      exact heap_leaf h hx f (2 * i + 1) (by omega) (by rw [h3, ← h4])
/-- Both ends of a heap and of the list in order with the same items. -/
theorem heap_ends {M S : List (Int × Int)} (h : Heap M) (hp : M.Perm S) (ho : Ord S) {N : Nat} (hl : S.length = N) (h0 : 0 < N) : M[0]? = S[0]? ∧ ∃ k, N / 2 ≤ k ∧ k < N ∧ M[k]? = S[N - 1]? := by
  have hml : M.length = N := by rw [hp.length_eq, hl]
  constructor
  · cases S with
    | nil => simp at hl; omega
    | cons a r =>
      have hM : M[0]? = some (at0 M 0) := by simp [at0, hml, h0]
      have h2 : leP (at0 M 0) a = true := heap_min h a (hp.mem_iff.2 (by simp))
      have h3 : at0 M 0 ∈ a :: r := hp.mem_iff.1 (at0_mem (by omega))
      have : at0 M 0 = a := by
        rcases List.mem_cons.1 h3 with h4 | h4
        · exact h4
        · exact leP_anti h2 (List.rel_of_pairwise_cons ho h4)
      rw [hM, this]
      rfl
  · have hx : S[N - 1]? = some S[N - 1] := List.getElem?_eq_getElem (by omega)
    have hmax : ∀ y ∈ M, leP y S[N - 1] = true := by
      intro y hy
      obtain ⟨j, hj⟩ := List.mem_iff_getElem?.1 (hp.mem_iff.1 hy)
      obtain ⟨hjl, _⟩ := List.getElem?_eq_some_iff.1 hj
      rcases Nat.lt_or_ge j (N - 1) with h5 | h5
      · exact ord_at ho h5 hj hx
      · obtain rfl : j = N - 1 := by omega
        rw [hx] at hj
        injection hj with hj
        rw [hj]
        exact leP_refl _
    obtain ⟨i, hi⟩ := List.mem_iff_getElem?.1 (hp.mem_iff.2 (List.mem_of_getElem? hx))
    obtain ⟨k, h6, h7, h8⟩ := heap_leaf h hmax M.length i (by omega) hi
    rw [hml] at h6 h7
    exact ⟨k, h6, h7, by rw [h8, hx]⟩

/-- Whether an item stands at a place from lo to k. -/
def LeafAt (M : List (Int × Int)) (x : Int × Int) (lo k : Nat) (t : Bool) : Prop := t = true ↔ ∃ j, lo ≤ j ∧ j < k ∧ M[j]? = some x
theorem LeafAt.start (M : List (Int × Int)) (x : Int × Int) (lo : Nat) : LeafAt M x lo lo false := by
  refine ⟨fun h => (by cases h), fun h => ?_⟩
  obtain ⟨j, h1, h2, _⟩ := h
  omega
theorem LeafAt.yes {M : List (Int × Int)} {x : Int × Int} {lo k : Nat} (h : LeafAt M x lo k true) : LeafAt M x lo (k + 1) true := by
  obtain ⟨j, h1, h2, h3⟩ := h.1 rfl
  exact ⟨fun _ => ⟨j, h1, by omega, h3⟩, fun _ => rfl⟩
theorem LeafAt.hit {M : List (Int × Int)} {x : Int × Int} {lo k : Nat} (hl : lo ≤ k) (hx : M[k]? = some x) : LeafAt M x lo (k + 1) true :=
  ⟨fun _ => ⟨k, hl, by omega, hx⟩, fun _ => rfl⟩
theorem LeafAt.miss {M : List (Int × Int)} {x y : Int × Int} {lo k : Nat} (h0 : LeafAt M x lo k false) (hx : M[k]? = some y) (hne : y ≠ x) : LeafAt M x lo (k + 1) false := by
  refine ⟨fun h => (by cases h), fun h => ?_⟩
  obtain ⟨j, h1, h2, h3⟩ := h
  rcases Nat.lt_or_ge j k with h4 | h4
  · exact h0.2 ⟨j, h1, h4, h3⟩
  · obtain rfl : j = k := by omega
    rw [hx] at h3
    injection h3 with h3
    exact absurd h3 hne

set_option maxRecDepth 100000 in
set_option maxHeartbeats 3200000 in
theorem fnEndsOfHeap_ok (A0 A1 A2 A3 A4 A5 : Option Addr) (n0 n1 n2 n3 n4 n5 c0 c1 c2 c3 c4 c5 : Nat) (x0 x1 x2 x3 x4 x5 : List Int) (w : World) (h0 : Row w 1 A0 n0 c0 (ints x0)) (h1 : Row w 1 A1 n1 c1 (ints x1)) (h2 : Row w 1 A2 n2 c2 (ints x2)) (h3 : Row w 1 A3 n3 c3 (ints x3)) (h4 : Row w 1 A4 n4 c4 (ints x4)) (h5 : Row w 1 A5 n5 c5 (ints x5)) (hs : n0 ≤ 1073741824) (hs2 : n2 ≤ 1073741824) :
    Calls Try.prog 9 #[.slice A0 n0 c0, .slice A1 n1 c1, .slice A2 n2 c2, .slice A3 n3 c3, .slice A4 n4 c4, .slice A5 n5 c5] w fun e w' => e = .returned (.bool true) ∧ Ext w w' := by
  have HI := Lib.hid (items_ok A0 A1 n0 n1 c0 c1 x0 x1 w h0 h1 (by omega))
  have H2 := Lib.hid h2
  have H3 := Lib.hid h3
  have H4 := Lib.hid h4
  have H5 := Lib.hid h5
  have hxl : (x0.zip x1).length ≤ 1073741824 := by rw [List.length_zip, h0.ints_len]; omega
  have hzl := zip4_length x2 x3 x4 x5
  rw [h2.ints_len] at hzl
  have hTl : (zip4 x2 x3 x4 x5).length ≤ 1073741824 := by omega
  clear hzl h0 h1 h2 h3 h4 h5
  go_enter Try.func9, Try.ntmps9
  go_wp2_with fail
  refine HI.out.mono ?_
  rintro e w1 ⟨B1, q1, rfl, hr1, hx1⟩
  have HR1 := Lib.hid hr1
  have HX1 := Lib.hid hx1
  clear hr1 hx1
  have hst := steps_ok A2 A3 A4 A5 n2 n3 n4 n5 c2 c3 c4 c5 x2 x3 x4 x5 w1 (H2.out.ext HX1.out) (H3.out.ext HX1.out) (H4.out.ext HX1.out) (H5.out.ext HX1.out) (by omega)
  generalize zip4 x2 x3 x4 x5 = T at hst hTl
  generalize x0.zip x1 = xs at HR1 hxl
  generalize hTm : T.length = m at hst hTl
  have HTM := Lib.hid hTm
  have HST := Lib.hid hst
  clear hst hTm
  go_wp2_with fail
  refine HST.out.mono ?_
  rintro e w2 ⟨B2, q2, rfl, hr2, hx2⟩
  have HR2 := Lib.hid hr2
  have HX2 := Lib.hid (HX1.out.trans hx2)
  have HR1' := Lib.hid (HR1.out.ext hx2)
  clear hr2 hx2
  go_wp2_with fail
  refine (queueAll_ok B1 B2 _ _ q1 q2 xs T w2 HR1'.out HR2.out (by omega) (by omega)).mono ?_
  rintro e w3 ⟨B3, q3, rfl, hr3, hx3⟩
  have HR3 := Lib.hid hr3
  have HX3 := Lib.hid hx3
  clear hr3 hx3
  go_wp2_with fail
  refine (keptAll_ok B1 B2 _ _ q1 q2 xs T w3 (HR1'.out.ext HX3.out) (HR2.out.ext HX3.out) (by omega) (by omega)).mono ?_
  rintro e w4 ⟨B4, q4, rfl, hr4, hx4⟩
  have hrk : Dones w4 B4 (m + 1) q4 (kall xs T) := hr4
  have HR4 := Lib.hid hrk
  have HR3' := Lib.hid (HR3.out.ext hx4)
  have HEX := Lib.hid (HX2.out.trans (HX3.out.trans hx4))
  have HAL := Lib.hid (all_like xs T)
  have HQS : Hid (∀ d ∈ qall xs T, d.2.2.length ≤ 2147483648) := Lib.hid fun d hd => Nat.le_trans (qall_small hxl (by rw [HTM.out]; exact hTl) d hd) (by omega)
  clear hr4 hx4 hrk
  have sw : IntKind.i64.wrap ((m : Int) + 1) = (m : Int) + 1 := IntWalk.i64_in _ (by omega)
  have sb : (((m : Int) + 1) != ((m : Int) + 1)) = false := by simp
  go_wp2_with fail
  clear sw sb
  go_loopg [52] (m + 1) (fun kx s wr => ∃ i : Nat, s = .int .i64 (i : Int) ∧ i + kx = m + 1 ∧ Hid (Ext w4 wr))
  case atStart => exact ⟨0, rfl, by omega, Ext.refl _⟩
  case round =>
    obtain ⟨i, rfl, hik, HE⟩ := hrel
    by_cases him : i < m + 1
    · obtain ⟨b3, o3, is1, u1, u2, l1, C1, r1, rfl, hl1, a0, a1, a2, a3, HA⟩ := (HR3'.out.ext HE.out).at_ (k := i) him
      obtain ⟨b4, o4, is4, u5, u6, l4, C4, r4, rfl, hl4, -, -, -, e3, HB⟩ := (HR4.out.ext HE.out).at_ (k := i) him
      obtain ⟨-, -, hpm, hhp, hor⟩ := HAL.out i _ _ hl1.out hl4.out
      simp only at hpm hhp hor
      have hNl : l1.length ≤ 2147483648 := HQS.out _ (List.mem_of_getElem? hl1.out)
      obtain ⟨N, hN⟩ : ∃ N, N = l1.length := ⟨_, rfl⟩
      have hN4 : l4.length = N := by rw [hN]; exact hpm.length_eq.symm
      rw [← hN] at a3 HA hNl
      rw [hN4] at e3 HB
      have HN1 := Lib.hid hN
      have HN4 := Lib.hid hN4
      have HPM := Lib.hid hpm
      have HHP := Lib.hid hhp
      have HOR := Lib.hid hor
      have a2' : wr.cell? ⟨b3, o3 + i * 4 + 2, none⟩ = some (.int .i64 u2) := a2
      have f3 := cell_alloc_some e3 (.cells #[.bool is1, .int .i64 u1, .int .i64 u2, .slice C1 N r1] 34)
      have snn : ((N : Int) != (N : Int)) = false := by simp
      clear hpm hhp hor hN hN4 hl1 hl4
      have HE2 : Hid (Ext w4 (wr.alloc (.cells #[.bool is1, .int .i64 u1, .int .i64 u2, .slice C1 N r1] 34))) := HE.out.alloc _
      by_cases hN0 : N = 0
      · subst hN0
        go_wp2
        go_roundg (gk - 1)
        case measure => omega
        case rel => exact ⟨i + 1, by go_num, by omega, HE2.out⟩
      · have hn0 : ((N : Int) == 0) = false := by simp; omega
        obtain ⟨hfst, hleaf⟩ := heap_ends HHP.out HPM.out HOR.out HN4.out (by omega)
        have HF := Lib.hid hfst
        have HLF := Lib.hid hleaf
        clear hfst hleaf
        obtain ⟨e, he⟩ : ∃ e, e = N - 1 := ⟨_, rfl⟩
        obtain ⟨d4, p4, s1, s2, rfl, hsk, hs1, hs2⟩ := HB.out.item_at (k := e) (by omega)
        obtain ⟨d4', p4', t1, t2, hbo, htk, ht1, ht2⟩ := HB.out.item_at (k := 0) (by omega)
        injection hbo with hbo
        injection hbo with hbo1 hbo2
        subst hbo1 hbo2
        go_upto_block 2 with (fail)
        obtain ⟨wo, rfl⟩ : ∃ wo : World, wo = wr := ⟨_, rfl⟩
        obtain ⟨d3, p3, y1, y2, rfl, hyk, hy1, hy2⟩ := HA.out.item_at (k := 0) (by omega)
        have HAW : Hid (Row (wo.alloc (.cells #[.bool is1, .int .i64 u1, .int .i64 u2, .slice (some ⟨d3, p3, none⟩) N r1] 34)) 2 (some ⟨d3, p3, none⟩) N r1 (its l1)) := HA.out.alloc _
        have g0 : (wo.alloc (.cells #[.bool is1, .int .i64 u1, .int .i64 u2, .slice (some ⟨d3, p3, none⟩) N r1] 34)).cell? ⟨wo.heap.size, 3, none⟩ = some (.slice (some ⟨d3, p3, none⟩) N r1) := by go_simp
        have g1 := cell_alloc_some hs1 (.cells #[.bool is1, .int .i64 u1, .int .i64 u2, .slice (some ⟨d3, p3, none⟩) N r1] 34)
        have g2 := cell_alloc_some hs2 (.cells #[.bool is1, .int .i64 u1, .int .i64 u2, .slice (some ⟨d3, p3, none⟩) N r1] 34)
        have g3 := cell_alloc_some ht1 (.cells #[.bool is1, .int .i64 u1, .int .i64 u2, .slice (some ⟨d3, p3, none⟩) N r1] 34)
        have g4 := cell_alloc_some ht2 (.cells #[.bool is1, .int .i64 u1, .int .i64 u2, .slice (some ⟨d3, p3, none⟩) N r1] 34)
        have g5 := cell_alloc_some hy1 (.cells #[.bool is1, .int .i64 u1, .int .i64 u2, .slice (some ⟨d3, p3, none⟩) N r1] 34)
        have g6 := cell_alloc_some hy2 (.cells #[.bool is1, .int .i64 u1, .int .i64 u2, .slice (some ⟨d3, p3, none⟩) N r1] 34)
        generalize wo.alloc (.cells #[.bool is1, .int .i64 u1, .int .i64 u2, .slice (some ⟨d3, p3, none⟩) N r1] 34) = W1 at f3 HE2 HAW g0 g1 g2 g3 g4 g5 g6
        clear a0 a1 a2 a2' a3 e3 hs1 hs2 ht1 ht2 hy1 hy2 snn
        have HEE := Lib.hid he
        obtain ⟨rfl, rfl⟩ : y1 = t1 ∧ y2 = t2 := by
          have h := HF.out
          rw [hyk.out, htk.out] at h
          simpa using h
        have HSK : Hid (l4[N - 1]? = some (s1, s2)) := by rw [← he]; exact hsk
        have G0 := Lib.hid g0
        have G1 := Lib.hid g1
        have G2 := Lib.hid g2
        have G3 := Lib.hid g3
        have G4 := Lib.hid g4
        have G5 := Lib.hid g5
        have G6 := Lib.hid g6
        have F3 := Lib.hid f3
        clear g0 g1 g2 g3 g4 g5 g6 f3
        clear he
        have hN2 : ((N : Int) / 2) = ((N / 2 : Nat) : Int) := by omega
        rw [hN2]
        clear hN2
        go_wp2
        go_loopg [20, 21] (N - N / 2) (fun kx s t wr => ∃ (k : Nat) (bl : Bool), s = .bool bl ∧ t = .int .i64 (k : Int) ∧ N / 2 ≤ k ∧ k + kx = N ∧ Hid (LeafAt l1 (s1, s2) (N / 2) k bl) ∧ Hid (Ext W1 wr))
        case atStart => exact ⟨N / 2, false, rfl, rfl, Nat.le_refl _, by omega, LeafAt.start _ _ _, Ext.refl _⟩
        case round =>
          obtain ⟨k, bl, rfl, rfl, hk2, hkk, HLA, HE5⟩ := hrel
          have k0 := HE5.out.cell_some G0.out
          have k1 := HE5.out.cell_some F3.out
          by_cases hkN : k < N
          · have k2 := HE5.out.cell_some G1.out
            have k3 := HE5.out.cell_some G2.out
            obtain ⟨d5, p5, z1, z2, hbo, hzk, z1c, z2c⟩ := (HAW.out.ext HE5.out).item_at (k := k) hkN
            injection hbo with hbo
            injection hbo with hbo1 hbo2
            subst hbo1 hbo2
            have i0 : (0 : Int) ≤ (k : Int) := by omega
            have i1 : (k : Int) < (N : Int) := by omega
            have i2 : (i : Int) < (m : Int) + 1 := by omega
            have i3 : (0 : Int) ≤ (i : Int) := by omega
            have i4 : (N : Int) - 1 = (e : Int) := by have := HEE.out; omega
            have i5 : e < N := by have := HEE.out; omega
            have i6 : IntKind.i64.wrap (e : Int) = (e : Int) := IntWalk.i64_in _ (by omega)
            have i7 : (e : Int) < (N : Int) := by omega
            have i8 : (0 : Int) ≤ (e : Int) := by omega
            have hzN := HLA
            cases bl with
            | true =>
              have HL2 := Lib.hid HLA.out.yes
              go_wp2
              go_quiet (fail)
              go_wp2
              go_roundg (gk - 1)
              case measure => omega
              case rel => exact ⟨k + 1, _, rfl, by go_num, by omega, by omega, HL2.out, HE5.out.drewN _⟩
            | false =>
              by_cases he1 : z1 = s1
              · by_cases he2 : z2 = s2
                · have HL2 : Hid (LeafAt l1 (s1, s2) (N / 2) (k + 1) true) := LeafAt.hit hk2 (by rw [hzk.out, he1, he2])
                  subst he1 he2
                  go_wp2
                  go_region_held3 (fun w' => w'.cell? ⟨wo.heap.size, 3, none⟩ = some (.slice (some ⟨d3, p3, none⟩) N r1) ∧ w'.cell? ⟨b4, o4 + i * 4 + 3, none⟩ = some (.slice (some ⟨d4, p4, none⟩) N r4) ∧ w'.cell? ⟨d3, p3 + k * 2, none⟩ = some (.int .i64 z1) ∧ w'.cell? ⟨d3, p3 + k * 2 + 1, none⟩ = some (.int .i64 z2) ∧ w'.cell? ⟨d4, p4 + e * 2, none⟩ = some (.int .i64 z1) ∧ w'.cell? ⟨d4, p4 + e * 2 + 1, none⟩ = some (.int .i64 z2)) (exact ⟨k0, k1, z1c, z2c, k2, k3⟩) (fail)
                  go_wp2
                  go_roundg (gk - 1)
                  case measure => omega
                  case rel => exact ⟨k + 1, _, rfl, by go_num, by omega, by omega, HL2.out, HE5.out.drew⟩
                · have HL2 := Lib.hid (HLA.out.miss hzk.out (fun e => he2 (by injection e)))
                  subst he1
                  go_wp2
                  go_region_held3 (fun w' => w'.cell? ⟨wo.heap.size, 3, none⟩ = some (.slice (some ⟨d3, p3, none⟩) N r1) ∧ w'.cell? ⟨b4, o4 + i * 4 + 3, none⟩ = some (.slice (some ⟨d4, p4, none⟩) N r4) ∧ w'.cell? ⟨d3, p3 + k * 2, none⟩ = some (.int .i64 z1) ∧ w'.cell? ⟨d3, p3 + k * 2 + 1, none⟩ = some (.int .i64 z2) ∧ w'.cell? ⟨d4, p4 + e * 2, none⟩ = some (.int .i64 z1) ∧ w'.cell? ⟨d4, p4 + e * 2 + 1, none⟩ = some (.int .i64 s2)) (exact ⟨k0, k1, z1c, z2c, k2, k3⟩) (fail)
                  go_wp2
                  go_roundg (gk - 1)
                  case measure => omega
                  case rel => exact ⟨k + 1, _, rfl, by go_num, by omega, by omega, HL2.out, HE5.out.drew⟩
              · have HL2 := Lib.hid (HLA.out.miss hzk.out (fun e => he1 (by injection e)))
                go_wp2
                go_region_held3 (fun w' => w'.cell? ⟨wo.heap.size, 3, none⟩ = some (.slice (some ⟨d3, p3, none⟩) N r1) ∧ w'.cell? ⟨b4, o4 + i * 4 + 3, none⟩ = some (.slice (some ⟨d4, p4, none⟩) N r4) ∧ w'.cell? ⟨d3, p3 + k * 2, none⟩ = some (.int .i64 z1) ∧ w'.cell? ⟨d3, p3 + k * 2 + 1, none⟩ = some (.int .i64 z2) ∧ w'.cell? ⟨d4, p4 + e * 2, none⟩ = some (.int .i64 s1) ∧ w'.cell? ⟨d4, p4 + e * 2 + 1, none⟩ = some (.int .i64 s2)) (exact ⟨k0, k1, z1c, z2c, k2, k3⟩) (fail)
                go_wp2
                go_roundg (gk - 1)
                case measure => omega
                case rel => exact ⟨k + 1, _, rfl, by go_num, by omega, by omega, HL2.out, HE5.out.drew⟩
          · obtain rfl : N = k := by omega
            obtain rfl : bl = true := by
              obtain ⟨j, h1, h2, h3⟩ := HLF.out
              exact HLA.out.2 ⟨j, h1, h2, by rw [h3]; exact HSK.out⟩
            have k4 := HE5.out.cell_some G3.out
            have k5 := HE5.out.cell_some G4.out
            have k6 := HE5.out.cell_some G5.out
            have k7 := HE5.out.cell_some G6.out
            have i2 : (i : Int) < (m : Int) + 1 := by omega
            have i3 : (0 : Int) ≤ (i : Int) := by omega
            have i6 : 0 < N := by omega
            have q4 : wr.cell? ⟨d4, p4, none⟩ = some (.int .i64 y1) := by simpa using k4
            have q5 : wr.cell? ⟨d4, p4 + 1, none⟩ = some (.int .i64 y2) := by simpa using k5
            have q6 : wr.cell? ⟨d3, p3, none⟩ = some (.int .i64 y1) := by simpa using k6
            have q7 : wr.cell? ⟨d3, p3 + 1, none⟩ = some (.int .i64 y2) := by simpa using k7
            have HEF : Hid (Ext w4 wr.drew) := (HE2.out.trans HE5.out).drew
            clear k4 k5 k6 k7
            go_wp2
            go_region_held3 (fun w' => w'.cell? ⟨wo.heap.size, 3, none⟩ = some (.slice (some ⟨d3, p3, none⟩) N r1) ∧ w'.cell? ⟨b4, o4 + i * 4 + 3, none⟩ = some (.slice (some ⟨d4, p4, none⟩) N r4) ∧ w'.cell? ⟨d3, p3, none⟩ = some (.int .i64 y1) ∧ w'.cell? ⟨d3, p3 + 1, none⟩ = some (.int .i64 y2) ∧ w'.cell? ⟨d4, p4, none⟩ = some (.int .i64 y1) ∧ w'.cell? ⟨d4, p4 + 1, none⟩ = some (.int .i64 y2)) (exact ⟨k0, k1, q6, q7, q4, q5⟩) (fail)
            go_wp2
            go_roundg (m - i)
            case measure => omega
            case rel => exact ⟨i + 1, by go_num, by omega, HEF.out⟩
    · obtain rfl : i = m + 1 := by omega
      go_wp2
      exact bodyPost_ret (v := .bool true) (by simp [results, Try.results9, go_sem]) rfl ⟨rfl, HEX.out.trans HE.out⟩
end Go.Proofs.Ytefeedpeiiaanaa
