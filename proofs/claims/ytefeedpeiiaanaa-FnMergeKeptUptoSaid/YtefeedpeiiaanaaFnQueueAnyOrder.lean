/- The walk of laws.FnQueueAnyOrder. No statement of the seat is proved here. -/
import Derived.Test.YtefeedpeiiaanaaFnQueueKept
import Derived.Test.YtefeedpeiiaanaaFnKeptAnyOrder
import Derived.Test.YtefeedpeiiaanaaAnyPlain
import Derived.Deep.DeepCutAuto
namespace Go.Proofs.Ytefeedpeiiaanaa
open Go.RowKit

theorem sts_snoc (T : List Stp) (s : Stp) : sts (T ++ [s]) = sts T ++ stc s := by rw [sts_append]; simp [sts]

set_option maxRecDepth 100000 in
set_option maxHeartbeats 3200000 in
theorem fnQueueAnyOrder_ok (A0 A1 A2 : Option Addr) (n0 n1 n2 c0 c1 c2 : Nat) (x0 x1 x2 : List Int) (k : Int) (w : World) (h0 : Row w 1 A0 n0 c0 (ints x0)) (h1 : Row w 1 A1 n1 c1 (ints x1)) (h2 : Row w 1 A2 n2 c2 (ints x2)) (hs : n0 ≤ 1073741824) :
    Calls Try.prog 3 #[.slice A0 n0 c0, .slice A1 n1 c1, .slice A2 n2 c2, .int .i64 k] w fun e w' => e = .returned (.bool true) ∧ Ext w w' := by
  have HI := Lib.hid (fun wx (hx : Ext w wx) => items_ok A0 A1 n0 n1 c0 c1 x0 x1 wx (h0.ext hx) (h1.ext hx) (by omega))
  have H2 := Lib.hid h2
  clear h0 h1 h2
  have hk : min n0 n1 ≤ 1073741824 := by omega
  generalize min n0 n1 = n at HI hk
  generalize x0.zip x1 = xs at HI
  go_enter Try.func3, Try.ntmps3
  go_wp2_with fail
  refine (HI.out w (Ext.refl w)).mono ?_
  rintro e w1 ⟨B1, q1, rfl, hr1, hx1⟩
  have HR1 := Lib.hid hr1
  have HX1 := Lib.hid hx1
  have hxl : xs.length = n := hr1.its_len
  have HXL := Lib.hid hxl
  clear hr1 hx1 hxl
  go_wp2_with fail
  refine (mixed_ok B1 A2 n n2 q1 c2 xs x2 w1 HR1.out (H2.out.ext HX1.out) (by omega)).mono ?_
  rintro e w2 ⟨C, q, L, rfl, hr2, hp2, hx2⟩
  have HR2 := Lib.hid hr2
  have HX2 := Lib.hid (HX1.out.trans hx2)
  have hL : sortP L = sortP xs := sortP_of_perm hp2
  have HL := Lib.hid hL
  have hll : L.length = n := hr2.its_len
  have HLL := Lib.hid hll
  have hqn := hr2.le
  have hqm := hr2.cap
  unfold maxLen at hqm
  clear hr2 hx2 hp2 hL hll
  by_cases hk0 : k < 0
  · have hd : decide (k < 0) = true := by simpa using hk0
    go_wp2
    go_ret
    exact ⟨rfl, HX2.out⟩
  have hd : decide (k < 0) = false := by simpa using hk0
  obtain ⟨k, rfl⟩ := Int.eq_ofNat_of_zero_le (by omega : 0 ≤ k)
  by_cases hkn : n < k
  · have hd2 : decide ((k : Int) > (n : Int)) = true := by simp; omega
    go_wp2
    go_ret
    exact ⟨rfl, HX2.out⟩
  have hd2 : decide ((k : Int) > (n : Int)) = false := by simp; omega
  have hkn2 : k ≤ n := by omega
  have hkq : k ≤ q := by omega
  go_upto_region 5 with (fail)
  have HO0 : Hid ((w2.alloc (.cells #[] 30)).ownsRow w2.heap.size 30 4 (.slice (some ⟨w2.heap.size, 0, none⟩) 0 0) 0 (sts [])) := own_lit0 w2 _ 4
  have HXW : Hid (Ext w2 (w2.alloc (.cells #[] 30))) := (Ext.refl w2).alloc _
  generalize w2.alloc (.cells #[] 30) = W at HO0 HXW
  go_cut [34, 35, 36] (fun s34 s35 s36 wx => ∃ (AT : Option Addr) (ct : Nat), s34 = .slice AT (n - k) ct ∧ s35 = .int .i64 ((n - k : Nat) : Int) ∧ s36 = .int .i64 0 ∧ wx = W ∧ Hid (Row w2 2 AT (n - k) ct (its (L.drop k))))
  case first =>
    have ht := HR2.out.tail (k := k) hkn2
    rw [its_drop] at ht
    have hnk : (n : Int) - (k : Int) = ((n - k : Nat) : Int) := by omega
    by_cases hqk : q = k
    · rw [if_pos hqk] at ht
      have HT := Lib.hid ht
      clear ht
      go_wp2
      go_meet
      exact ⟨C, q - k, by rw [hqk]; simp, rfl, rfl, rfl, HT.out⟩
    · rw [if_neg hqk] at ht
      have HT := Lib.hid ht
      clear ht
      go_wp2
      go_meet
      exact ⟨_, q - k, rfl, rfl, rfl, rfl, HT.out⟩
  case rest =>
    obtain ⟨AT, ct, rfl, rfl, rfl, rfl, HT⟩ := hcut
    have hml1 : 1 ≤ maxLen := by unfold maxLen; omega
    go_wp2
    go_loopg [10, 36] (n - k) (fun kx v s wr => ∃ j : Nat, s = .int .i64 (j : Int) ∧ j + kx = n - k ∧ Hid (wr.ownsRow w2.heap.size 30 4 v j (sts ((pushes (L.drop k)).take j))) ∧ Hid (Ext w2 wr))
    case atStart => exact ⟨0, rfl, by omega, HO0.out, HXW.out⟩
    case round =>
      obtain ⟨j, rfl, hjk, HO, HE⟩ := hrel
      by_cases hlt : j < n - k
      · obtain ⟨b, o, z1, z2, rfl, hzk, hc1, hc2⟩ := (HT.out.ext HE.out).item_at (k := j) hlt
        have HN := Lib.hid (pushes_take _ hzk.out)
        have hz := HE.out.size
        go_wp2_with (at_builtin; refine Stand.out ?_)
        refine Stand.mk (wpList_apps elStep rfl _ _ rfl w2.heap.size u10 j _ rfl (own_ext HO.out (((Ext.refl wr).alloc _).alloc _)) (some ⟨wr.heap.size + 1, 0, none⟩) 1 1 (stc (0, (z1, z2), 0)) rfl (Row.fresh' _ _ 4 #[.int .i64 0, .int .i64 z1, .int .i64 z2, .int .i64 0] 1 _ (by simp) rfl hml1) (by simp [stc, Value.oneCell']) (by omega) (by unfold maxLen; omega) (by simp; omega) ?_)
        intro A3 c3 w3 HO3 HG3 HL3
        have HX3 : Hid (Ext w2 w3) := ((HE.out.alloc _).alloc _).grown HG3.out fun g hg => (HO.out.lt g hg).1
        go_wp2
        go_roundg (gk - 1)
        case measure => omega
        case rel => exact ⟨j + 1, by go_num, by omega, by rw [HN.out, sts_snoc]; exact HO3.out, HX3.out⟩
      · obtain rfl : j = n - k := by omega
        have e1 : (pushes (L.drop k)).take (n - k) = pushes (L.drop k) := List.take_of_length_le (by rw [pushes_length, List.length_drop, HLL.out]; exact Nat.le_refl _)
        rw [e1] at HO
        have HOa := HO
        have HEa := HE
        clear HO HE e1
        go_wp2
        go_loopg [10, 48] n (fun kx v s wr => ∃ j : Nat, s = .int .i64 (j : Int) ∧ j + kx = n ∧ Hid (wr.ownsRow w2.heap.size 30 4 v (n - k + j) (sts (pushes (L.drop k) ++ pops j))) ∧ Hid (Ext w2 wr))
        case atStart => exact ⟨0, rfl, by omega, by unfold Hid; simpa [pops] using HOa.out, HEa.out⟩
        case round =>
          obtain ⟨j, rfl, hjk, HO, HE⟩ := hrel
          by_cases hlt2 : j < n
          · have hz := HE.out.size
            go_wp2_with (at_builtin; refine Stand.out ?_)
            refine Stand.mk (wpList_apps elStep rfl _ _ rfl w2.heap.size u10 (n - k + j) _ rfl (own_ext HO.out ((Ext.refl _).alloc _)) _ 1 1 (stc (1, (0, 0), 0)) rfl (Row.fresh' _ _ 4 #[.int .i64 1, .int .i64 0, .int .i64 0, .int .i64 0] 1 _ rfl rfl hml1) (by simp [stc, Value.oneCell']) (by omega) (by unfold maxLen; omega) (by simp; omega) ?_)
            intro A3 c3 w3 HO3 HG3 HL3
            have HX3 : Hid (Ext w2 w3) := (HE.out.alloc _).grown HG3.out fun g hg => (HO.out.lt g hg).1
            go_wp2
            go_roundg (gk - 1)
            case measure => omega
            case rel => exact ⟨j + 1, by go_num, by omega, by rw [pops_succ, ← List.append_assoc, sts_snoc]; exact HO3.out, HX3.out⟩
          · obtain rfl : n = j := by omega
            obtain ⟨B3, q3, rfl, hrs⟩ := own_form HO.out
            obtain ⟨T, hT⟩ : ∃ T, T = pushes (L.drop k) ++ pops n := ⟨_, rfl⟩
            rw [← hT] at hrs
            have HTE := Lib.hid hT
            have HRS := Lib.hid hrs
            have HRH : Hid (Row w2 2 C k q (its (L.take k))) := by have h := HR2.out.head (k := k) hkn2; rw [its_take] at h; exact h
            clear hT hrs
            go_wp2_with fail
            refine (queueAll_ok C B3 k (n - k + n) q q3 (L.take k) T _ (HRH.out.ext HE.out) HRS.out (by omega) (by omega)).mono ?_
            rintro e w4 ⟨B4, q4, rfl, hr4, hx4⟩
            have HR4 := Lib.hid hr4
            have HX4 : Hid (Ext w w4) := HX2.out.trans (HE.out.trans hx4)
            clear hr4 hx4
            go_wp2_with fail
            refine (HI.out w4 HX4.out).mono ?_
            rintro e w5 ⟨B5, q5, rfl, hr5, hx5⟩
            have HR5 := Lib.hid hr5
            have HX5 := Lib.hid hx5
            clear hr5 hx5
            go_wp2_with fail
            refine (keptAll_ok B5 none n 0 q5 0 xs [] w5 HR5.out (Row.nil_sts w5) (by omega) (by omega)).mono ?_
            rintro e w6 ⟨B6, q6, rfl, hr6, hx6⟩
            obtain ⟨b6, o6, is6, y1, y2, l6, D6, r6, rfl, hl6, -, -, -, ha, HA⟩ := hr6.at_ (k := 0) (by omega)
            obtain rfl : l6 = sortP xs := by have := hl6.out; simp at this; exact this.2.2.symm
            have HSL : Hid ((sortP xs).length = n) := by unfold Hid; rw [sortP_length]; exact HXL.out
            have a3 : w6.cell? ⟨b6, o6 + 3, none⟩ = some (.slice D6 n r6) := by rw [HSL.out] at ha; simpa using ha
            have HA' : Hid (Row w6 2 D6 n r6 (its (sortP xs))) := by have := HA.out; rw [HSL.out] at this; exact this
            have HX6 : Hid (Ext w w6) := HX4.out.trans (HX5.out.trans hx6)
            have HR6 := Lib.hid (HR4.out.ext (HX5.out.trans hx6))
            clear hl6 ha HA hr6 hx6
            have sw : IntKind.i64.wrap (((n - k + n : Nat) : Int) + 1) = ((n - k + n : Nat) : Int) + 1 := IntWalk.i64_in _ (by omega)
            have sb : ((((n - k + n : Nat) : Int) + 1) != (((n - k + n : Nat) : Int) + 1)) = false := by simp
            have sn : ((n : Int) != (n : Int)) = false := by simp
            go_wp2_with fail
            go_loopg [90] n (fun kx s wr => ∃ i : Nat, s = .int .i64 (i : Int) ∧ i + kx = n ∧ Hid (Ext w6 wr))
            case atStart => exact ⟨0, rfl, by omega, Ext.refl _⟩
            case round =>
              obtain ⟨i, rfl, hik, HE6⟩ := hrel
              clear sw sb sn
              by_cases hin : i < n
              · obtain ⟨b7, o7, z1, z2, rfl, hzk, hc1, hc2⟩ := (HA'.out.ext HE6.out).item_at (k := i) hin
                obtain ⟨b8, o8, is8, v1, v2, l8, D8, r8, rfl, hl8, d0, d1, d2, d3, -⟩ := (HR6.out.ext HE6.out).at_ (k := n - k + 1 + i) (by omega)
                obtain ⟨rfl, e2, e3⟩ : is8 = true ∧ (v1, v2) = (z1, z2) ∧ l8.length = n - 1 - i := by
                  have h := hl8.out
                  rw [HTE.out] at h
                  exact pop_like HLL.out hkn2 (by rw [HL.out]; exact hzk.out) h
                injection e2 with e21 e22
                subst e21 e22
                generalize l8.length = m8 at d3 e3
                have hix : (n : Int) - (k : Int) + 1 + (i : Int) = ((n - k + 1 + i : Nat) : Int) := by omega
                have hlt8 : n - k + 1 + i < n - k + n + 1 := by omega
                obtain rfl := e3
                have hm8 : (n : Int) - 1 - (i : Int) = ((n - 1 - i : Nat) : Int) := by omega
                have hne8 : (((n - 1 - i : Nat) : Int) != ((n - 1 - i : Nat) : Int)) = false := by simp
                clear hl8 hzk
                have f0 := cell_alloc_some d0 (.cells #[.int .i64 v1, .int .i64 v2] 28)
                have f1 := cell_alloc_some d1 (.cells #[.int .i64 v1, .int .i64 v2] 28)
                have f2 : (wr.alloc (.cells #[.int .i64 v1, .int .i64 v2] 28)).cell? ⟨b8, o8 + (n - k + 1 + i) * 4 + 2, none⟩ = some (.int .i64 v2) := cell_alloc_some d2 _
                have f3 := cell_alloc_some d3 (.cells #[.int .i64 v1, .int .i64 v2] 28)
                clear d0 d1 d2 d3
                have HEN : Hid (Ext w6 ((wr.alloc (.cells #[.int .i64 v1, .int .i64 v2] 28)).alloc (.cells #[.bool true, .int .i64 v1, .int .i64 v2, .slice D8 (n - 1 - i) r8] 34))) := (HE6.out.alloc _).alloc _
                go_wp2
                go_roundg (gk - 1)
                case measure => omega
                case rel => exact ⟨i + 1, by go_num, by omega, HEN.out⟩
              · obtain rfl : n = i := by omega
                go_wp2
                exact bodyPost_ret (v := .bool true) (by simp [results, Try.results3, go_sem]) rfl ⟨rfl, HX6.out.trans HE6.out⟩
end Go.Proofs.Ytefeedpeiiaanaa
