/- The walk of laws.FnMergeKept. No statement of the seat is proved here. -/
import Derived.Test.YtefeedpeiiaanaaFnQueueAnyOrder
import Derived.Test.YtefeedpeiiaanaaMergePlain
import Derived.Deep.DeepCutAuto
namespace Go.Proofs.Ytefeedpeiiaanaa
open Go.RowKit

/-- In the loop: what is left of both lists. -/
def MgInv (w wr : World) (S : List (Int × Int)) (i : Nat) (A B : Option Addr) (np mq cp cq : Nat) (P Q : List (Int × Int)) : Prop :=
  Row wr 2 A np cp (its P) ∧ Row wr 2 B mq cq (its Q) ∧ Ord P ∧ Ord Q ∧ (P ++ Q).Perm (S.drop i) ∧ Ext w wr

set_option maxRecDepth 100000 in
set_option maxHeartbeats 6400000 in
theorem fnMergeKept_ok (A0 A1 A2 A3 : Option Addr) (n0 n1 n2 n3 c0 c1 c2 c3 : Nat) (x0 x1 x2 x3 : List Int) (w : World) (h0 : Row w 1 A0 n0 c0 (ints x0)) (h1 : Row w 1 A1 n1 c1 (ints x1)) (h2 : Row w 1 A2 n2 c2 (ints x2)) (h3 : Row w 1 A3 n3 c3 (ints x3)) (hs : n0 ≤ 1073741824) (hs2 : n2 ≤ 1073741824) :
    Calls Try.prog 12 #[.slice A0 n0 c0, .slice A1 n1 c1, .slice A2 n2 c2, .slice A3 n3 c3] w fun e w' => e = .returned (.bool true) ∧ Ext w w' := by
  have HI := Lib.hid (items_ok A0 A1 n0 n1 c0 c1 x0 x1 w h0 h1 (by omega))
  have HJ := Lib.hid (fun wx (hx : Ext w wx) => items_ok A2 A3 n2 n3 c2 c3 x2 x3 wx (h2.ext hx) (h3.ext hx) (by omega))
  clear h0 h1 h2 h3
  have hkn : min n0 n1 ≤ 1073741824 := by omega
  have hkm : min n2 n3 ≤ 1073741824 := by omega
  generalize min n0 n1 = n at HI hkn
  generalize min n2 n3 = m at HJ hkm
  generalize x0.zip x1 = xs at HI
  generalize x2.zip x3 = ys at HJ
  go_enter Try.func12, Try.ntmps12
  go_wp2_with fail
  refine HI.out.mono ?_
  rintro e w1 ⟨B1, q1, rfl, hr1, hx1⟩
  have HR1 := Lib.hid hr1
  have HX1 := Lib.hid hx1
  have HXL : Hid (xs.length = n) := hr1.its_len
  clear hr1 hx1
  go_wp2_with fail
  refine (HJ.out w1 HX1.out).mono ?_
  rintro e w2 ⟨B2, q2, rfl, hr2, hx2⟩
  have HR2 := Lib.hid hr2
  have HX2 := Lib.hid hx2
  have HYL : Hid (ys.length = m) := hr2.its_len
  clear hr2 hx2
  go_wp2_with fail
  refine (keptAll_ok B1 none n 0 q1 0 xs [] w2 (HR1.out.ext HX2.out) (Row.nil_sts w2) (by omega) (by omega)).mono ?_
  rintro e w3 ⟨B3, q3, rfl, hr3, hx3⟩
  have HR3 := Lib.hid hr3
  have HX3 := Lib.hid hx3
  clear hr3 hx3
  go_wp2_with fail
  refine (keptAll_ok B2 none m 0 q2 0 ys [] w3 (HR2.out.ext HX3.out) (Row.nil_sts w3) (by omega) (by omega)).mono ?_
  rintro e w4 ⟨B4, q4, rfl, hr4, hx4⟩
  obtain ⟨b3, o3, is3, u1, u2, l3, C3, r3, rfl, hl3, -, -, -, a3, HA⟩ := (HR3.out.ext hx4).at_ (k := 0) (by omega)
  obtain rfl : l3 = sortP xs := by have := hl3.out; simp at this; exact this.2.2.symm
  clear hl3
  obtain ⟨b4, o4, is4, u3, u4, l4, C4, r4, rfl, hl4, -, -, -, a4, HB⟩ := hr4.at_ (k := 0) (by omega)
  obtain rfl : l4 = sortP ys := by have := hl4.out; simp at this; exact this.2.2.symm
  clear hl4
  have HSX : Hid ((sortP xs).length = n) := by unfold Hid; rw [sortP_length]; exact HXL.out
  have HSY : Hid ((sortP ys).length = m) := by unfold Hid; rw [sortP_length]; exact HYL.out
  have k3 : w4.cell? ⟨b3, o3 + 3, none⟩ = some (.slice C3 n r3) := by rw [HSX.out] at a3; simpa using a3
  have k4 : w4.cell? ⟨b4, o4 + 3, none⟩ = some (.slice C4 m r4) := by rw [HSY.out] at a4; simpa using a4
  have HA' : Hid (Row w4 2 C3 n r3 (its (sortP xs))) := by have := HA.out; rw [HSX.out] at this; exact this
  have HB' : Hid (Row w4 2 C4 m r4 (its (sortP ys))) := by have := HB.out; rw [HSY.out] at this; exact this
  have HX4 : Hid (Ext w w4) := HX1.out.trans (HX2.out.trans (HX3.out.trans hx4))
  clear a3 a4 HA HB hr4 hx4
  have sn : ((n : Int) != (n : Int)) = false := by simp
  have sm : ((m : Int) != (m : Int)) = false := by simp
  go_wp2_with fail
  go_region_held3 (fun w' => w'.cell? ⟨b3, o3 + 3, none⟩ = some (.slice C3 n r3) ∧ w'.cell? ⟨b4, o4 + 3, none⟩ = some (.slice C4 m r4)) (first | exact ⟨k3, k4⟩ | exact ⟨cell_alloc_some k3 _, cell_alloc_some k4 _⟩ | go_keep) (fail)
  clear sn sm
  have hml1 : 1 ≤ maxLen := by unfold maxLen; omega
  go_wp2
  have HO0 : Hid ((w4.alloc (.cells #[] 30)).drew.ownsRow w4.heap.size 30 4 (.slice (some ⟨w4.heap.size, 0, none⟩) 0 0) 0 (sts [])) := own_ext (own_lit0 w4 _ 4) (Ext.refl _).drew
  have HE0 : Hid (Ext w4 (w4.alloc (.cells #[] 30)).drew) := ((Ext.refl w4).alloc _).drew
  generalize (w4.alloc (.cells #[] 30)).drew = W0 at HO0 HE0
  go_loopg [15, 16] (n + m) (fun kx v s wr => ∃ j : Nat, s = .int .i64 (j : Int) ∧ j + kx = n + m ∧ Hid (wr.ownsRow w4.heap.size 30 4 v j (sts (pops j))) ∧ Hid (Ext w4 wr))
  case atStart => exact ⟨0, rfl, by omega, HO0.out, HE0.out⟩
  case round =>
    obtain ⟨j, rfl, hjk, HO, HE⟩ := hrel
    have hz := HE.out.size
    by_cases hjn : j < n + m
    · have t1 : decide ((j : Int) < (n : Int) + (m : Int)) = true := by simp; omega
      go_wp2_with (at_builtin; refine Stand.out ?_)
      refine Stand.mk (wpList_apps elStep rfl _ _ rfl w4.heap.size u15 j _ rfl (own_ext HO.out ((Ext.refl _).alloc _)) _ 1 1 (stc (1, (0, 0), 0)) rfl (Row.fresh' _ _ 4 #[.int .i64 1, .int .i64 0, .int .i64 0, .int .i64 0] 1 _ rfl rfl hml1) (by simp [stc, Value.oneCell']) (by omega) (by unfold maxLen; omega) (by simp; omega) ?_)
      intro A5 c5 w5 HO5 HG5 HL5
      have HX5 : Hid (Ext w4 w5) := (HE.out.alloc _).grown HG5.out fun g hg => (HO.out.lt g hg).1
      go_wp2
      go_roundg (gk - 1)
      case measure => omega
      case rel => exact ⟨j + 1, by go_num, by omega, by rw [pops_succ, sts_snoc]; exact HO5.out, HX5.out⟩
    · obtain rfl : j = n + m := by omega
      have t1 : decide (((n + m : Nat) : Int) < (n : Int) + (m : Int)) = false := by simp
      obtain ⟨A5, q5, rfl, hrs⟩ := own_form HO.out
      have HRS := Lib.hid hrs
      clear hrs
      go_wp2_with (at_builtin; refine Stand.out ?_)
      refine Stand.mk (wpList_apps elItem rfl _ _ rfl wr.heap.size (.slice (some ⟨wr.heap.size, 0, none⟩) 0 0) 0 [] rfl (own_lit0 wr _ _) C3 n r3 (its (sortP xs)) rfl ((HA'.out.ext HE.out).alloc _) (its_one _) (by omega) (by unfold maxLen; omega) (by simp) ?_)
      intro A6 c6 w6 HO6 HG6 HL6
      have hx6 : Ext wr w6 := ((Ext.refl wr).alloc _).grown HG6.out fun g hg => by simp [Value.ownBlock] at hg; omega
      have HX6 := Lib.hid hx6
      have ho6 := HO6.out
      rw [Nat.zero_add, List.nil_append] at ho6
      rw [Nat.zero_add]
      have HO6' := Lib.hid ho6
      clear hx6 ho6
      go_wp2_with (at_builtin; refine Stand.out ?_)
      refine Stand.mk (wpList_apps elItem rfl _ _ rfl wr.heap.size (.slice A6 n c6) n _ rfl HO6'.out C4 m r4 (its (sortP ys)) rfl (HB'.out.ext (HE.out.trans HX6.out)) (its_one _) (by omega) (by unfold maxLen; omega) HX6.out.size ?_)
      intro A7 c7 w7 HO7 HG7 HL7
      have hx7 : Ext wr w7 := HX6.out.grown HG7.out fun g hg => (HO6'.out.lt g hg).1
      have hrow : Row w7 2 A7 (n + m) c7 (its (sortP xs ++ sortP ys)) := by
        have h := Row.own HO7.out
        rw [← its_append] at h
        exact h
      have HX7 := Lib.hid hx7
      have HRW := Lib.hid hrow
      have HLL : Hid ((sortP xs ++ sortP ys).length = n + m) := hrow.its_len
      clear hx7 hrow HO6 HO6' HG6 HL6 HO7 HG7 HL7
      obtain ⟨L, hL⟩ : ∃ L, L = sortP xs ++ sortP ys := ⟨_, rfl⟩
      rw [← hL] at HRW HLL
      have HLE := Lib.hid hL
      clear hL
      go_wp2_with fail
      refine (queueAll_ok A7 A5 (n + m) (n + m) c7 q5 L (pops (n + m)) w7 HRW.out (HRS.out.ext HX7.out) (by omega) (by omega)).mono ?_
      rintro e w8 ⟨B8, q8, rfl, hr8, hx8⟩
      have hq8 : n + m + 1 ≤ q8 := by obtain ⟨vs, _, hr, _⟩ := hr8; exact hr.le
      have hp8 : q8 ≤ 9223372036854775807 := by obtain ⟨vs, _, hr, _⟩ := hr8; have := hr.cap; unfold maxLen at this; omega
      obtain ⟨b8, o8, -, -, -, -, -, -, rfl, -, -, -, -, -, -⟩ := hr8.at_ (k := 0) (by omega)
      have HR8 := Lib.hid hr8
      have HX8 := Lib.hid (HE.out.trans (HX7.out.trans hx8))
      clear hr8 hx8
      have sw : IntKind.i64.wrap (((n + m : Nat) : Int) + 1) = ((n + m : Nat) : Int) + 1 := IntWalk.i64_in _ (by omega)
      have sb : ((((n + m : Nat) : Int) + 1) != (((n + m : Nat) : Int) + 1)) = false := by simp
      go_upto_region 13 with (fail)
      clear sw sb
      go_cut [95, 96, 97] (fun s95 s96 s97 wx => ∃ (AR : Option Addr) (cr : Nat), s95 = .slice AR (n + m) cr ∧ s96 = .int .i64 ((n + m : Nat) : Int) ∧ s97 = .int .i64 0 ∧ wx = w8 ∧ Hid (0 < n + m → AR = some ⟨b8, o8 + 4, none⟩))
      case first =>
        by_cases hq1 : q8 = 1
        · have hnm : n + m = 0 := by omega
          go_wp2
          go_meet
          exact ⟨some ⟨b8, o8, none⟩, 0, by rw [hnm], by rw [hnm]; rfl, rfl, rfl, fun h => by omega⟩
        · go_wp2
          go_meet
          exact ⟨_, _, rfl, by simp, rfl, rfl, fun _ => rfl⟩
      case rest =>
        obtain ⟨AR, cr, rfl, rfl, rfl, rfl, HAR⟩ := hcut
        obtain ⟨wz, rfl⟩ : ∃ wz : World, wz = wc := ⟨_, rfl⟩
        have HSO : Hid (Ord (sortP L)) := sortP_ord L
        have HSL : Hid ((sortP L).length = n + m) := by unfold Hid; rw [sortP_length]; exact HLL.out
        obtain ⟨S, hS⟩ : ∃ S, S = sortP L := ⟨_, rfl⟩
        rw [← hS] at HSO HSL
        have HSE := Lib.hid hS
        have HPL : Hid ((sortP xs ++ sortP ys).Perm S) := by unfold Hid; rw [hS, ← HLE.out]; exact (sortP_perm L).symm
        clear hS
        go_wp2
        go_loopg [13, 14, 97] (n + m) (fun kx s13 s14 s97 wr => ∃ (i : Nat) (A B : Option Addr) (np mq cp cq : Nat) (P Q : List (Int × Int)), s13 = .slice A np cp ∧ s14 = .slice B mq cq ∧ s97 = .int .i64 (i : Int) ∧ i + kx = n + m ∧ np + mq = kx ∧ Hid (P.length = np) ∧ Hid (Q.length = mq) ∧ Hid (MgInv wz wr S i A B np mq cp cq P Q))
        case atStart => exact ⟨0, C3, C4, n, m, r3, r4, sortP xs, sortP ys, rfl, rfl, rfl, by omega, rfl, HSX.out, HSY.out, HA'.out.ext HX8.out, HB'.out.ext HX8.out, sortP_ord xs, sortP_ord ys, HPL.out, Ext.refl _⟩
        case round =>
          obtain ⟨i, A, B, np, mq, cp, cq, P, Q, rfl, rfl, rfl, hik, hpq, HPn, HQn, HMG⟩ := hrel
          by_cases hin : i < n + m
          · obtain rfl := HAR.out (by omega)
            obtain ⟨b9, o9, is9, v1, v2, l9, C9, r9, hbo, hl9, d0, d1, d2, d3, -⟩ := (HR8.out.ext HMG.out.2.2.2.2.2).at_ (k := i + 1) (by omega)
            injection hbo with hbo
            injection hbo with hbo1 hbo2
            subst hbo1 hbo2
            have hlt : i < S.length := by rw [HSL.out]; exact hin
            obtain ⟨sx, hsx⟩ : ∃ sx, sx = S[i] := ⟨_, rfl⟩
            have hSi : S[i]? = some sx := by rw [hsx]; exact List.getElem?_eq_getElem hlt
            obtain ⟨rfl, e2⟩ : is9 = true ∧ (v1, v2) = sx := by
              have h := pops_like HLL.out (by rw [← HSE.out]; exact hSi) hl9.out
              exact h
            have HDS : Hid (S.drop i = (v1, v2) :: S.drop (i + 1)) := by unfold Hid; rw [e2, hsx]; exact List.drop_eq_getElem_cons hlt
            have HOS : Hid (Ord ((v1, v2) :: S.drop (i + 1))) := by unfold Hid; rw [← HDS.out]; exact List.Pairwise.sublist (List.drop_sublist _ _) HSO.out
            have eo : o8 + (i + 1) * 4 = o8 + 4 + i * 4 := by omega
            rw [eo] at d0 d1 d2 d3
            have d2' : wr.cell? ⟨b8, o8 + 4 + i * 4 + 2, none⟩ = some (.int .i64 v2) := d2
            clear e2 hSi hl9 d2 eo hsx hlt
            obtain ⟨D9, hD9⟩ : ∃ D9, D9 = (wr.alloc (.cells #[.bool true, .int .i64 v1, .int .i64 v2, .slice C9 l9.length r9] 34)).alloc (.cells #[.int .i64 0, .int .i64 0] 28) := ⟨_, rfl⟩
            have HW9 : Hid (Ext wr D9) := by unfold Hid; rw [hD9]; exact ((Ext.refl wr).alloc _).alloc _
            have HB19 : Hid (D9.heap[wr.heap.size]? = some (.cells #[.bool true, .int .i64 v1, .int .i64 v2, .slice C9 l9.length r9] 34 (0, 0))) := by unfold Hid; rw [hD9]; exact blk_ext ((Ext.refl _).alloc _) (heap_alloc_new wr _)
            have HB20 : Hid (D9.heap[wr.heap.size + 1]? = some (.cells #[.int .i64 0, .int .i64 0] 28 (0, 0))) := by unfold Hid; rw [hD9]; have := heap_alloc_new (wr.alloc (.cells #[.bool true, .int .i64 v1, .int .i64 v2, .slice C9 l9.length r9] 34)) (.cells #[.int .i64 0, .int .i64 0] 28); simpa using this
            have HPQ : Hid (takeP P Q = true → P ≠ []) := by
              intro h1 h2
              subst h2
              cases Q with
              | nil => have h3 := HPn.out; have h4 := HQn.out; simp at h3 h4; omega
              | cons b q' => simp [takeP] at h1
            have t0 : decide ((i : Int) < ((n + m : Nat) : Int)) = true := by simp; omega
            go_wp2
            rw [← hD9]
            clear hD9 t0
            go_cut [142] (fun s142 wx => s142 = .bool (takeP P Q) ∧ Hid (∃ k, wx = D9.drewN k))
            case first =>
              cases P with
              | nil =>
                cases Q with
                | nil => exact absurd rfl (HPQ.out rfl)
                | cons b q' =>
                  obtain rfl : np = 0 := by have := HPn.out; simpa using this.symm
                  have hm0 : ((mq : Int) == 0) = false := by have := HQn.out; simp at this ⊢; omega
                  go_quiet (fail)
                  go_wp2_with fail
                  go_meet
                  exact ⟨rfl, ⟨_, rfl⟩⟩
              | cons a p' =>
                have hnp : 0 < np := by have := HPn.out; simp at this; omega
                cases Q with
                | nil =>
                  obtain rfl : mq = 0 := by have := HQn.out; simpa using this.symm
                  go_quiet (fail)
                  go_wp2_with fail
                  go_meet
                  exact ⟨rfl, ⟨_, rfl⟩⟩
                | cons b q' =>
                  have hmq : 0 < mq := by have := HQn.out; simp at this; omega
                  obtain ⟨d, o, a1, a2, rfl, hak, ha1, ha2⟩ := HMG.out.1.item_at (k := 0) hnp
                  obtain rfl : a = (a1, a2) := by have := hak.out; simpa using this
                  obtain ⟨d', o', b1, b2, rfl, hbk, hb1, hb2⟩ := HMG.out.2.1.item_at (k := 0) hmq
                  obtain rfl : b = (b1, b2) := by have := hbk.out; simpa using this
                  have m7 : D9.cell? ⟨d, o, none⟩ = some (.int .i64 a1) := HW9.out.cell_some (by simpa using ha1)
                  have m8 : D9.cell? ⟨d, o + 1, none⟩ = some (.int .i64 a2) := HW9.out.cell_some (by simpa using ha2)
                  have m9 : D9.cell? ⟨d', o', none⟩ = some (.int .i64 b1) := HW9.out.cell_some (by simpa using hb1)
                  have m10 : D9.cell? ⟨d', o' + 1, none⟩ = some (.int .i64 b2) := HW9.out.cell_some (by simpa using hb2)
                  have hm0 : ((mq : Int) == 0) = false := by simp; omega
                  have hp0 : decide ((np : Int) > 0) = true := by simp; omega
                  clear ha1 ha2 hb1 hb2 hak hbk
                  by_cases h1 : a1 < b1
                  · have HTK : Hid (takeP ((a1, a2) :: p') ((b1, b2) :: q') = true) := by show leP (a1, a2) (b1, b2) = true; rw [leP_iff]; simp only; omega
                    have g1 : decide (a1 < b1) = true := by simpa using h1
                    go_quiet (fail)
                    go_wp2_with fail
                    go_meet
                    exact ⟨by rw [HTK.out], ⟨_, rfl⟩⟩
                  · have g1 : decide (a1 < b1) = false := by simpa using h1
                    by_cases h2 : a1 = b1
                    · have g2 : (a1 == b1) = true := by simpa using h2
                      by_cases h3 : a2 ≤ b2
                      · have HTK : Hid (takeP ((a1, a2) :: p') ((b1, b2) :: q') = true) := by show leP (a1, a2) (b1, b2) = true; rw [leP_iff]; simp only; omega
                        have g3 : decide (a2 ≤ b2) = true := by simpa using h3
                        clear h2
                        go_quiet (fail)
                        go_wp2_with fail
                        go_meet
                        exact ⟨by rw [HTK.out], ⟨_, rfl⟩⟩
                      · have HTK : Hid (takeP ((a1, a2) :: p') ((b1, b2) :: q') = false) := by show leP (a1, a2) (b1, b2) = false; rw [leP_false]; simp only; omega
                        have g3 : decide (a2 ≤ b2) = false := by simpa using h3
                        clear h2
                        go_quiet (fail)
                        go_wp2_with fail
                        go_meet
                        exact ⟨by rw [HTK.out], ⟨_, rfl⟩⟩
                    · have HTK : Hid (takeP ((a1, a2) :: p') ((b1, b2) :: q') = false) := by show leP (a1, a2) (b1, b2) = false; rw [leP_false]; simp only; omega
                      have g2 : (a1 == b1) = false := by simpa using h2
                      go_quiet (fail)
                      go_wp2_with fail
                      go_meet
                      exact ⟨by rw [HTK.out], ⟨_, rfl⟩⟩
            case rest =>
              obtain ⟨rfl, HK⟩ := hcut
              obtain ⟨k9, hk9⟩ := HK.out
              have HX9 : Hid (Ext D9 wc) := by unfold Hid; rw [hk9]; exact (Ext.refl D9).drewN k9
              clear HK hk9
              have f1 := blk_ext HX9.out HB19.out
              have f2 := blk_ext HX9.out HB20.out
              have m0 : wc.cell? ⟨wr.heap.size, 0, none⟩ = some (.bool true) := by simp [World.cell?, f1]
              have m1 : wc.cell? ⟨wr.heap.size, 1, none⟩ = some (.int .i64 v1) := by simp [World.cell?, f1]
              have m2 : wc.cell? ⟨wr.heap.size, 1 + 1, none⟩ = some (.int .i64 v2) := by simp [World.cell?, f1]
              have m3 : wc.cell? ⟨wr.heap.size + 1, 0, none⟩ = some (.int .i64 0) := by simp [World.cell?, f2]
              have m4 : wc.cell? ⟨wr.heap.size + 1, 1, none⟩ = some (.int .i64 0) := by simp [World.cell?, f2]
              have m5 : wc.frozen? ⟨wr.heap.size + 1, 0, none⟩ = false := by simp [World.frozen?, f2]
              have m6 : wc.frozen? ⟨wr.heap.size + 1, 1, none⟩ = false := by simp [World.frozen?, f2]
              clear f1 f2
              obtain ⟨t, ht⟩ : ∃ t, t = takeP P Q := ⟨_, rfl⟩
              rw [← ht]
              have HT := Lib.hid ht
              clear ht
              cases t with
              | true =>
                obtain ⟨a, p', rfl⟩ : ∃ a p', P = a :: p' := by
                  cases P with
                  | cons a p' => exact ⟨a, p', rfl⟩
                  | nil => exact absurd rfl (HPQ.out HT.out.symm)
                have hnp : 0 < np := by have := HPn.out; simp at this; omega
                obtain ⟨d, o, a1, a2, rfl, hak, ha1, ha2⟩ := HMG.out.1.item_at (k := 0) hnp
                obtain rfl : a = (a1, a2) := by have := hak.out; simpa using this
                have hmg := merge_left HMG.out.2.2.1 HOS.out (by rw [← HDS.out]; exact HMG.out.2.2.2.2.1) HMG.out.2.2.2.1 HT.out.symm
                obtain ⟨e1, hperm⟩ := hmg
                injection e1 with e11 e12
                subst e11 e12
                have HPM := Lib.hid hperm
                clear hperm
                have htl := HMG.out.1.tail (k := 1) (by omega)
                rw [its_drop, List.drop_succ_cons, List.drop_zero] at htl
                have HTL := Lib.hid htl
                have hcl := HMG.out.1.le
                have hcm := HMG.out.1.cap
                unfold maxLen at hcm
                clear htl
                have m7 : wc.cell? ⟨d, o, none⟩ = some (.int .i64 v1) := (HW9.out.trans HX9.out).cell_some (by simpa using ha1)
                have m8 : wc.cell? ⟨d, o + 1, none⟩ = some (.int .i64 v2) := (HW9.out.trans HX9.out).cell_some (by simpa using ha2)
                clear ha1 ha2 hak
                by_cases hc1 : cp = 1
                · subst hc1
                  obtain rfl : np = 1 := by omega
                  go_wp2
                  go_region
                  all_goals
                    go_wp2
                    go_roundg (gk - 1)
                    case measure => omega
                    case rel =>
                      have hxe : Ext wr ((wc.setCell ⟨wr.heap.size + 1, 0, none⟩ (.int .i64 v1)).setCell ⟨wr.heap.size + 1, 1, none⟩ (.int .i64 v2)).drew := (((HW9.out.trans HX9.out).setCell (by simp) _).setCell (by simp) _).drew
                      have ht := HTL.out
                      rw [if_pos trivial] at ht
                      exact ⟨i + 1, _, B, 0, mq, 0, cq, p', Q, rfl, rfl, by go_num, by omega, by omega, by have := HPn.out; rw [List.length_cons] at this; unfold Hid; omega, HQn.out, ht.ext hxe, HMG.out.2.1.ext hxe, List.Pairwise.of_cons HMG.out.2.2.1, HMG.out.2.2.2.1, HPM.out, HMG.out.2.2.2.2.2.trans hxe⟩
                · go_wp2
                  go_region
                  all_goals
                    go_wp2
                    go_roundg (gk - 1)
                    case measure => omega
                    case rel =>
                      have hxe : Ext wr ((wc.setCell ⟨wr.heap.size + 1, 0, none⟩ (.int .i64 v1)).setCell ⟨wr.heap.size + 1, 1, none⟩ (.int .i64 v2)).drew := (((HW9.out.trans HX9.out).setCell (by simp) _).setCell (by simp) _).drew
                      have ht := HTL.out
                      rw [if_neg hc1] at ht
                      exact ⟨i + 1, _, B, np - 1, mq, cp - 1, cq, p', Q, rfl, rfl, by go_num, by omega, by omega, by have := HPn.out; rw [List.length_cons] at this; unfold Hid; omega, HQn.out, ht.ext hxe, HMG.out.2.1.ext hxe, List.Pairwise.of_cons HMG.out.2.2.1, HMG.out.2.2.2.1, HPM.out, HMG.out.2.2.2.2.2.trans hxe⟩
              | false =>
                obtain ⟨b, q', rfl⟩ : ∃ b q', Q = b :: q' := by
                  cases Q with
                  | cons b q' => exact ⟨b, q', rfl⟩
                  | nil => cases P <;> exact absurd HT.out (by simp [takeP])
                have hnp : 0 < mq := by have := HQn.out; simp at this; omega
                obtain ⟨d, o, b1, b2, rfl, hak, ha1, ha2⟩ := HMG.out.2.1.item_at (k := 0) hnp
                obtain rfl : b = (b1, b2) := by have := hak.out; simpa using this
                have hmg := merge_right HMG.out.2.2.1 HOS.out (by rw [← HDS.out]; exact HMG.out.2.2.2.2.1) HMG.out.2.2.2.1 HT.out.symm
                obtain ⟨e1, hperm⟩ := hmg
                injection e1 with e11 e12
                subst e11 e12
                have HPM := Lib.hid hperm
                clear hperm
                have htl := HMG.out.2.1.tail (k := 1) (by omega)
                rw [its_drop, List.drop_succ_cons, List.drop_zero] at htl
                have HTL := Lib.hid htl
                have hcl := HMG.out.2.1.le
                have hcm := HMG.out.2.1.cap
                unfold maxLen at hcm
                clear htl
                have m7 : wc.cell? ⟨d, o, none⟩ = some (.int .i64 v1) := (HW9.out.trans HX9.out).cell_some (by simpa using ha1)
                have m8 : wc.cell? ⟨d, o + 1, none⟩ = some (.int .i64 v2) := (HW9.out.trans HX9.out).cell_some (by simpa using ha2)
                clear ha1 ha2 hak
                by_cases hc1 : cq = 1
                · subst hc1
                  obtain rfl : mq = 1 := by omega
                  go_wp2
                  go_region
                  all_goals
                    go_wp2
                    go_roundg (gk - 1)
                    case measure => omega
                    case rel =>
                      have hxe : Ext wr ((wc.setCell ⟨wr.heap.size + 1, 0, none⟩ (.int .i64 v1)).setCell ⟨wr.heap.size + 1, 1, none⟩ (.int .i64 v2)).drew := (((HW9.out.trans HX9.out).setCell (by simp) _).setCell (by simp) _).drew
                      have ht := HTL.out
                      rw [if_pos trivial] at ht
                      exact ⟨i + 1, A, _, np, 0, cp, 0, P, q', rfl, rfl, by go_num, by omega, by omega, HPn.out, by have := HQn.out; rw [List.length_cons] at this; unfold Hid; omega, HMG.out.1.ext hxe, ht.ext hxe, HMG.out.2.2.1, List.Pairwise.of_cons HMG.out.2.2.2.1, HPM.out, HMG.out.2.2.2.2.2.trans hxe⟩
                · go_wp2
                  go_region
                  all_goals
                    go_wp2
                    go_roundg (gk - 1)
                    case measure => omega
                    case rel =>
                      have hxe : Ext wr ((wc.setCell ⟨wr.heap.size + 1, 0, none⟩ (.int .i64 v1)).setCell ⟨wr.heap.size + 1, 1, none⟩ (.int .i64 v2)).drew := (((HW9.out.trans HX9.out).setCell (by simp) _).setCell (by simp) _).drew
                      have ht := HTL.out
                      rw [if_neg hc1] at ht
                      exact ⟨i + 1, A, _, np, mq - 1, cp, cq - 1, P, q', rfl, rfl, by go_num, by omega, by omega, HPn.out, by have := HQn.out; rw [List.length_cons] at this; unfold Hid; omega, HMG.out.1.ext hxe, ht.ext hxe, HMG.out.2.2.1, List.Pairwise.of_cons HMG.out.2.2.2.1, HPM.out, HMG.out.2.2.2.2.2.trans hxe⟩
          · obtain rfl : n + m = i := by omega
            go_wp2
            exact bodyPost_ret (v := .bool true) (by simp [results, Try.results12, go_sem]) rfl ⟨rfl, HX4.out.trans (HX8.out.trans HMG.out.2.2.2.2.2)⟩
end Go.Proofs.Ytefeedpeiiaanaa
