/- The walk of laws.FnQueueInits. No statement of the seat is proved here. -/
import Derived.Test.YtefeedpeiiaanaaInitsPlain
import Derived.Test.YtefeedpeiiaanaaOpenB
import Derived.Test.YtefeedpeiiaanaaMixed
namespace Go.Proofs.Ytefeedpeiiaanaa
open Go.RowKit

def dueN (T : List Stp) (I : List Bool) (t : Nat) : Int := ((moreTo T I (t + 1)).length : Int)
/-- The slice of steps with the Inits, so far. -/
def MoreIs (w2 wr : World) (v : Value) (T : List Stp) (I : List Bool) (j : Nat) : Prop := ∃ A c L0, v = .slice A L0 c ∧ (moreTo T I j).length = L0 ∧ wr.ownsRow w2.heap.size 30 4 (.slice A L0 c) L0 (sts (moreTo T I j))
theorem step_cells {w : World} {s1 s2 s3 s4 : Int} {g : Nat} (h : w.heap[g]? = some (.cells #[.int .i64 s1, .int .i64 s2, .int .i64 s3, .int .i64 s4] 30 (0, 0))) : ∀ (k : Nat) {u : Value}, #[Value.int .i64 s1, .int .i64 s2, .int .i64 s3, .int .i64 s4][k]? = some u → w.cell? ⟨g, k, none⟩ = some u := by
  intro k u hu
  simp only [World.cell?, h]
  simpa using hu

set_option maxRecDepth 100000 in
set_option maxHeartbeats 3200000 in
theorem fnQueueInits_ok (A0 A1 A2 A3 A4 A5 A6 : Option Addr) (n0 n1 n2 n3 n4 n5 n6 c0 c1 c2 c3 c4 c5 c6 : Nat) (x0 x1 x2 x3 x4 x5 : List Int) (I : List Bool) (w : World) (h0 : Row w 1 A0 n0 c0 (ints x0)) (h1 : Row w 1 A1 n1 c1 (ints x1)) (h2 : Row w 1 A2 n2 c2 (ints x2)) (h3 : Row w 1 A3 n3 c3 (ints x3)) (h4 : Row w 1 A4 n4 c4 (ints x4)) (h5 : Row w 1 A5 n5 c5 (ints x5)) (h6 : Row w 1 A6 n6 c6 (bls I)) (hs : n0 ≤ 1073741824) (hs2 : n2 ≤ 1073741824) :
    Calls Try.prog 5 #[.slice A0 n0 c0, .slice A1 n1 c1, .slice A2 n2 c2, .slice A3 n3 c3, .slice A4 n4 c4, .slice A5 n5 c5, .slice A6 n6 c6] w fun e w' => e = .returned (.bool true) ∧ Ext w w' := by
  have HI := Lib.hid (items_ok A0 A1 n0 n1 c0 c1 x0 x1 w h0 h1 (by omega))
  have H2 := Lib.hid h2
  have H3 := Lib.hid h3
  have H4 := Lib.hid h4
  have H5 := Lib.hid h5
  have H6 := Lib.hid h6
  have hl6 := h6.lim
  unfold maxLen at hl6
  have hxl : (x0.zip x1).length ≤ 1073741824 := by rw [List.length_zip, h0.ints_len]; omega
  have hzl := zip4_length x2 x3 x4 x5
  rw [h2.ints_len] at hzl
  have hTl : (zip4 x2 x3 x4 x5).length ≤ 1073741824 := by omega
  clear hzl h0 h1 h2 h3 h4 h5 h6
  have hml1 : 1 ≤ maxLen := by unfold maxLen; omega
  go_enter Try.func5, Try.ntmps5
  go_wp2_with fail
  refine HI.out.mono ?_
  rintro e w1 ⟨B1, q1, rfl, hr1, hx1⟩
  have HR1 := Lib.hid hr1
  have HX1 := Lib.hid hx1
  clear hr1 hx1
  have hst := steps_ok A2 A3 A4 A5 n2 n3 n4 n5 c2 c3 c4 c5 x2 x3 x4 x5 w1 (H2.out.ext HX1.out) (H3.out.ext HX1.out) (H4.out.ext HX1.out) (H5.out.ext HX1.out) (by omega)
  generalize zip4 x2 x3 x4 x5 = T at hst hTl
  generalize x0.zip x1 = xs at HR1 hxl
  generalize hTm : T.length = m at hst hTl
  have HTM := Lib.hid hTm
  have HST := Lib.hid hst
  clear hst hTm
  go_wp2_with fail
  refine HST.out.mono ?_
  rintro e w2 ⟨B2, q2, rfl, hr2, hx2⟩
  have HR2 := Lib.hid hr2
  have HX2 := Lib.hid (HX1.out.trans hx2)
  have HR1' := Lib.hid (HR1.out.ext hx2)
  clear hr2 hx2
  go_wp2
  go_loopg [17, 18, 37] m (fun kx v u s wr => ∃ j : Nat, s = .int .i64 (j : Int) ∧ j + kx = m ∧ Hid (MoreIs w2 wr v T I j) ∧ Hid (wr.ownsRow w2.heap.size 3 1 u j (ints ((List.range j).map (dueN T I)))) ∧ Hid (Ext w2 wr))
  case atStart => exact ⟨0, rfl, by omega, ⟨_, _, 0, rfl, rfl, (own_lit0 w2 _ 4).alloc _⟩, (by have h := own_mono (own_lit0 (w2.alloc (.cells #[] 30)) 3 1) (base' := w2.heap.size) (by simp); unfold Hid; simpa [ints] using h), ((Ext.refl w2).alloc _).alloc _⟩
  case round =>
    obtain ⟨j, rfl, hjk, HMO, HDU, HE⟩ := hrel
    obtain ⟨A3', c3', L0, rfl, hL0, hown⟩ := HMO.out
    have HMM := Lib.hid hL0
    have HOW := Lib.hid hown
    clear hL0 hown HMO
    have hLb : L0 ≤ 2147483648 := by have h := (moreTo_len_le T I j (by rw [HTM.out]; omega)).1; rw [HMM.out] at h; omega
    have hz := HE.out.size
    by_cases hjm : j < m
    · obtain ⟨b, o, s1, s2, s3, s4, rfl, hsk, hc1, hc2, hc3, hc4⟩ := (HR2.out.ext HE.out).step_at (k := j) hjm
      have HDT := Lib.hid (drop_take_one hsk.out)
      obtain ⟨MM, hMM⟩ : ∃ MM, MM = moreTo T I j := ⟨_, rfl⟩
      rw [← hMM] at HMM HOW
      have HQM := Lib.hid hMM
      clear hMM hsk
      have HB0 : Hid ((wr.alloc (.cells #[.int .i64 s1, .int .i64 s2, .int .i64 s3, .int .i64 s4] 30)).heap[wr.heap.size]? = some (.cells #[.int .i64 s1, .int .i64 s2, .int .i64 s3, .int .i64 s4] 30 (0, 0))) := heap_alloc_new wr _
      by_cases hbit : I.getD j false = true
      · have HNX : Hid (moreTo T I (j + 1) = (MM ++ [iniS]) ++ [(s1, (s2, s3), s4)]) := by
          unfold Hid
          conv => lhs; unfold moreTo
          rw [HDT.out, ← HQM.out, if_pos hbit]
        have hj6 : j < n6 := by
          rcases Nat.lt_or_ge j n6 with h | h
          · exact h
          · rw [List.getD_eq_getElem?_getD, List.getElem?_eq_none (by rw [H6.out.bls_len]; exact h)] at hbit; cases hbit
        obtain ⟨b6, o6, x6, rfl, hx6, hc6⟩ := (H6.out.ext (HX2.out.trans HE.out)).bool_at (k := j) hj6
        obtain rfl : x6 = true := by rw [List.getD_eq_getElem?_getD, hx6.out] at hbit; exact hbit
        have hc6' := cell_alloc_some hc6 (.cells #[.int .i64 s1, .int .i64 s2, .int .i64 s3, .int .i64 s4] 30)
        clear hbit hx6 hc6
        go_wp2_with (at_builtin; refine Stand.out ?_)
        refine Stand.mk (wpList_apps elStep rfl _ _ rfl w2.heap.size (.slice A3' L0 c3') L0 (sts MM) rfl (own_ext HOW.out (((Ext.refl _).alloc _).alloc _)) (some ⟨wr.heap.size + 1, 0, none⟩) 1 1 (stc iniS) rfl (Row.fresh' _ _ 4 #[.int .i64 4, .int .i64 0, .int .i64 0, .int .i64 0] 1 _ (by simp) rfl hml1) (by simp [stc, iniS, Value.oneCell']) (by omega) (by unfold maxLen; omega) (by simp; omega) ?_)
        intro A4' c4' w4 HO4 HG4 HL4
        have HX4 : Hid (Ext w2 w4) := ((HE.out.alloc _).alloc _).grown HG4.out fun g hg => (HOW.out.lt g hg).1
        have HB4 : Hid (w4.heap[wr.heap.size]? = some (.cells #[.int .i64 s1, .int .i64 s2, .int .i64 s3, .int .i64 s4] 30 (0, 0))) := blk_grown HG4.out (blk_ext ((Ext.refl _).alloc _) HB0.out) (own_ne_new HOW.out (Nat.le_refl _))
        have HDU2 : Hid (w4.ownsRow w2.heap.size 3 1 u18 j (ints ((List.range j).map (dueN T I)))) := by
          have hb := own_ext HDU.out (((Ext.refl wr).alloc (.cells #[.int .i64 s1, .int .i64 s2, .int .i64 s3, .int .i64 s4] 30)).alloc (.cells #[.int .i64 4, .int .i64 0, .int .i64 0, .int .i64 0] 30))
          have ho := own_ext HOW.out (((Ext.refl wr).alloc (.cells #[.int .i64 s1, .int .i64 s2, .int .i64 s3, .int .i64 s4] 30)).alloc (.cells #[.int .i64 4, .int .i64 0, .int .i64 0, .int .i64 0] 30))
          rcases own_own_ne hb ho (by decide) with h0 | h0
          · exact hb.kept HG4.out (.inl h0)
          · exact hb.kept HG4.out (.inr h0)
        have hHO : w4.ownsRow w2.heap.size 30 4 (.slice A4' (L0 + 1) c4') (L0 + 1) (sts (MM ++ [iniS])) := by
          have h := HO4.out
          have e : sts [iniS] = stc iniS := by simp [sts]
          rw [sts_append, e]
          exact h
        have HMM2 : Hid ((MM ++ [iniS]).length = L0 + 1) := by unfold Hid; rw [List.length_append, HMM.out]; rfl
        have HOW2 := Lib.hid hHO
        clear hHO HO4 HMM HOW HQM HL4 hc6'
        generalize MM ++ [iniS] = MM at HNX HMM2 HOW2
        have HMM := HMM2
        clear HMM2
        generalize L0 + 1 = L0 at HMM HOW2
        have hLb2 : L0 ≤ 2147483650 := by have h := (moreTo_len_le T I (j + 1) (by rw [HTM.out]; omega)).1; rw [HNX.out, List.length_append, HMM.out] at h; simp at h; omega
        have q0 : w4.cell? ⟨wr.heap.size, 0, none⟩ = some (.int .i64 s1) := step_cells HB4.out 0 (by simp)
        have q1 : w4.cell? ⟨wr.heap.size, 1, none⟩ = some (.int .i64 s2) := step_cells HB4.out 1 (by simp)
        have q2 : w4.cell? ⟨wr.heap.size, 2, none⟩ = some (.int .i64 s3) := step_cells HB4.out 2 (by simp)
        have q3 : w4.cell? ⟨wr.heap.size, 3, none⟩ = some (.int .i64 s4) := step_cells HB4.out 3 (by simp)
        have hzc := HX4.out.size
        go_wp2_with (at_builtin; refine Stand.out ?_)
        refine Stand.mk (wpList_apps elStep rfl _ _ rfl w2.heap.size (.slice A4' L0 c4') L0 (sts MM) rfl (own_ext HOW2.out ((Ext.refl _).alloc _)) _ 1 1 (stc (s1, (s2, s3), s4)) rfl (Row.fresh' _ _ 4 #[.int .i64 s1, .int .i64 s2, .int .i64 s3, .int .i64 s4] 1 _ (by first | rfl | simp) rfl hml1) (by simp [stc, Value.oneCell']) (by omega) (by unfold maxLen; omega) (by simp; omega) ?_)
        intro A5 c5 w5 HO5 HG5 HL5
        have HX5 : Hid (Ext w2 w5) := (HX4.out.alloc _).grown HG5.out fun g hg => (HOW2.out.lt g hg).1
        have HD5 : Hid (w5.ownsRow w2.heap.size 3 1 u18 j (ints ((List.range j).map (dueN T I)))) := by
          have hb := own_ext HDU2.out ((Ext.refl w4).alloc (.cells #[.int .i64 s1, .int .i64 s2, .int .i64 s3, .int .i64 s4] 30))
          have ho := own_ext HOW2.out ((Ext.refl w4).alloc (.cells #[.int .i64 s1, .int .i64 s2, .int .i64 s3, .int .i64 s4] 30))
          rcases own_own_ne hb ho (by decide) with h0 | h0
          · exact hb.kept HG5.out (.inl h0)
          · exact hb.kept HG5.out (.inr h0)
        have hz5 := HX5.out.size
        clear q0 q1 q2 q3
        go_wp2_with (at_builtin; refine Stand.out ?_)
        refine Stand.mk (wpList_apps elInt rfl _ _ rfl w2.heap.size u18 j _ rfl (own_ext HD5.out ((Ext.refl _).alloc _)) _ 1 1 [.int .i64 ((L0 + 1 : Nat) : Int)] rfl (Row.fresh' _ _ 1 #[.int .i64 ((L0 + 1 : Nat) : Int)] 1 _ rfl rfl hml1) (by simp [Value.oneCell']) (by omega) (by unfold maxLen; omega) (by simp; omega) ?_)
        intro A6 c6 w6 HO6 HG6 HL6
        have HX6 : Hid (Ext w2 w6) := (HX5.out.alloc _).grown HG6.out fun g hg => (HD5.out.lt g hg).1
        have HO56 : Hid (w6.ownsRow w2.heap.size 30 4 (.slice A5 (L0 + 1) c5) (L0 + 1) (sts MM ++ stc (s1, (s2, s3), s4))) := by
          have ho := own_ext HO5.out ((Ext.refl w5).alloc (.cells #[.int .i64 ((L0 + 1 : Nat) : Int)] 3))
          have hb := own_ext HD5.out ((Ext.refl w5).alloc (.cells #[.int .i64 ((L0 + 1 : Nat) : Int)] 3))
          rcases own_own_ne ho hb (by decide) with h0 | h0
          · exact ho.kept HG6.out (.inl h0)
          · exact ho.kept HG6.out (.inr h0)
        go_wp2
        go_roundg (gk - 1)
        case measure => omega
        case rel =>
          refine ⟨j + 1, by go_num, by omega, ?_, ?_, HX6.out⟩
          · refine ⟨A5, c5, L0 + 1, rfl, by rw [HNX.out, List.length_append, HMM.out]; rfl, ?_⟩
            rw [HNX.out, sts_append]
            have e : sts [(s1, (s2, s3), s4)] = stc (s1, (s2, s3), s4) := by simp [sts]
            rw [e]; exact HO56.out
          · rw [List.range_succ, List.map_append, ints_append]
            have e : ints (List.map (dueN T I) [j]) = [.int .i64 ((L0 + 1 : Nat) : Int)] := by
              simp only [List.map_cons, List.map_nil, ints, dueN]
              rw [HNX.out, List.length_append, HMM.out]; rfl
            rw [e]; exact HO6.out
      · have hbf : I.getD j false = false := by simpa using hbit
        have HNX : Hid (moreTo T I (j + 1) = MM ++ [(s1, (s2, s3), s4)]) := by
          unfold Hid
          conv => lhs; unfold moreTo
          rw [HDT.out, ← HQM.out, if_neg hbit, List.append_nil]
        have HX0 : Hid (Ext w2 (wr.alloc (.cells #[.int .i64 s1, .int .i64 s2, .int .i64 s3, .int .i64 s4] 30))) := HE.out.alloc _
        have HOW0 := Lib.hid (own_ext HOW.out ((Ext.refl wr).alloc (.cells #[.int .i64 s1, .int .i64 s2, .int .i64 s3, .int .i64 s4] 30)))
        clear hbit
        by_cases hj6 : j < n6
        · obtain ⟨b6, o6, x6, rfl, hx6, hc6⟩ := (H6.out.ext (HX2.out.trans HE.out)).bool_at (k := j) hj6
          obtain rfl : x6 = false := by rw [List.getD_eq_getElem?_getD, hx6.out] at hbf; exact hbf
          have hc6' := cell_alloc_some hc6 (.cells #[.int .i64 s1, .int .i64 s2, .int .i64 s3, .int .i64 s4] 30)
          clear hbf hx6 hc6
          have q0 : (wr.alloc (.cells #[.int .i64 s1, .int .i64 s2, .int .i64 s3, .int .i64 s4] 30)).cell? ⟨wr.heap.size, 0, none⟩ = some (.int .i64 s1) := step_cells HB0.out 0 (by simp)
          have q1 : (wr.alloc (.cells #[.int .i64 s1, .int .i64 s2, .int .i64 s3, .int .i64 s4] 30)).cell? ⟨wr.heap.size, 1, none⟩ = some (.int .i64 s2) := step_cells HB0.out 1 (by simp)
          have q2 : (wr.alloc (.cells #[.int .i64 s1, .int .i64 s2, .int .i64 s3, .int .i64 s4] 30)).cell? ⟨wr.heap.size, 2, none⟩ = some (.int .i64 s3) := step_cells HB0.out 2 (by simp)
          have q3 : (wr.alloc (.cells #[.int .i64 s1, .int .i64 s2, .int .i64 s3, .int .i64 s4] 30)).cell? ⟨wr.heap.size, 3, none⟩ = some (.int .i64 s4) := step_cells HB0.out 3 (by simp)
          have hzc := HX0.out.size
          go_wp2_with (at_builtin; refine Stand.out ?_)
          refine Stand.mk (wpList_apps elStep rfl _ _ rfl w2.heap.size (.slice A3' L0 c3') L0 (sts MM) rfl (own_ext HOW0.out ((Ext.refl _).alloc _)) _ 1 1 (stc (s1, (s2, s3), s4)) rfl (Row.fresh' _ _ 4 #[.int .i64 s1, .int .i64 s2, .int .i64 s3, .int .i64 s4] 1 _ (by first | rfl | simp) rfl hml1) (by simp [stc, Value.oneCell']) (by omega) (by unfold maxLen; omega) (by simp; omega) ?_)
          intro A5 c5 w5 HO5 HG5 HL5
          have HX5 : Hid (Ext w2 w5) := (HX0.out.alloc _).grown HG5.out fun g hg => (HOW0.out.lt g hg).1
          have HD5 : Hid (w5.ownsRow w2.heap.size 3 1 u18 j (ints ((List.range j).map (dueN T I)))) := by
            have hb := own_ext (own_ext HDU.out ((Ext.refl wr).alloc (.cells #[.int .i64 s1, .int .i64 s2, .int .i64 s3, .int .i64 s4] 30))) ((Ext.refl (wr.alloc (.cells #[.int .i64 s1, .int .i64 s2, .int .i64 s3, .int .i64 s4] 30))).alloc (.cells #[.int .i64 s1, .int .i64 s2, .int .i64 s3, .int .i64 s4] 30))
            have ho := own_ext HOW0.out ((Ext.refl (wr.alloc (.cells #[.int .i64 s1, .int .i64 s2, .int .i64 s3, .int .i64 s4] 30))).alloc (.cells #[.int .i64 s1, .int .i64 s2, .int .i64 s3, .int .i64 s4] 30))
            rcases own_own_ne hb ho (by decide) with h0 | h0
            · exact hb.kept HG5.out (.inl h0)
            · exact hb.kept HG5.out (.inr h0)
          have hz5 := HX5.out.size
          clear q0 q1 q2 q3
          go_wp2_with (at_builtin; refine Stand.out ?_)
          refine Stand.mk (wpList_apps elInt rfl _ _ rfl w2.heap.size u18 j _ rfl (own_ext HD5.out ((Ext.refl _).alloc _)) _ 1 1 [.int .i64 ((L0 + 1 : Nat) : Int)] rfl (Row.fresh' _ _ 1 #[.int .i64 ((L0 + 1 : Nat) : Int)] 1 _ rfl rfl hml1) (by simp [Value.oneCell']) (by omega) (by unfold maxLen; omega) (by simp; omega) ?_)
          intro A6 c6 w6 HO6 HG6 HL6
          have HX6 : Hid (Ext w2 w6) := (HX5.out.alloc _).grown HG6.out fun g hg => (HD5.out.lt g hg).1
          have HO56 : Hid (w6.ownsRow w2.heap.size 30 4 (.slice A5 (L0 + 1) c5) (L0 + 1) (sts MM ++ stc (s1, (s2, s3), s4))) := by
            have ho := own_ext HO5.out ((Ext.refl w5).alloc (.cells #[.int .i64 ((L0 + 1 : Nat) : Int)] 3))
            have hb := own_ext HD5.out ((Ext.refl w5).alloc (.cells #[.int .i64 ((L0 + 1 : Nat) : Int)] 3))
            rcases own_own_ne ho hb (by decide) with h0 | h0
            · exact ho.kept HG6.out (.inl h0)
            · exact ho.kept HG6.out (.inr h0)
          go_wp2
          go_roundg (gk - 1)
          case measure => omega
          case rel =>
            refine ⟨j + 1, by go_num, by omega, ?_, ?_, HX6.out⟩
            · refine ⟨A5, c5, L0 + 1, rfl, by rw [HNX.out, List.length_append, HMM.out]; rfl, ?_⟩
              rw [HNX.out, sts_append]
              have e : sts [(s1, (s2, s3), s4)] = stc (s1, (s2, s3), s4) := by simp [sts]
              rw [e]; exact HO56.out
            · rw [List.range_succ, List.map_append, ints_append]
              have e : ints (List.map (dueN T I) [j]) = [.int .i64 ((L0 + 1 : Nat) : Int)] := by
                simp only [List.map_cons, List.map_nil, ints, dueN]
                rw [HNX.out, List.length_append, HMM.out]; rfl
              rw [e]; exact HO6.out
        · clear hbf
          have q0 : (wr.alloc (.cells #[.int .i64 s1, .int .i64 s2, .int .i64 s3, .int .i64 s4] 30)).cell? ⟨wr.heap.size, 0, none⟩ = some (.int .i64 s1) := step_cells HB0.out 0 (by simp)
          have q1 : (wr.alloc (.cells #[.int .i64 s1, .int .i64 s2, .int .i64 s3, .int .i64 s4] 30)).cell? ⟨wr.heap.size, 1, none⟩ = some (.int .i64 s2) := step_cells HB0.out 1 (by simp)
          have q2 : (wr.alloc (.cells #[.int .i64 s1, .int .i64 s2, .int .i64 s3, .int .i64 s4] 30)).cell? ⟨wr.heap.size, 2, none⟩ = some (.int .i64 s3) := step_cells HB0.out 2 (by simp)
          have q3 : (wr.alloc (.cells #[.int .i64 s1, .int .i64 s2, .int .i64 s3, .int .i64 s4] 30)).cell? ⟨wr.heap.size, 3, none⟩ = some (.int .i64 s4) := step_cells HB0.out 3 (by simp)
          have hzc := HX0.out.size
          go_wp2_with (at_builtin; refine Stand.out ?_)
          refine Stand.mk (wpList_apps elStep rfl _ _ rfl w2.heap.size (.slice A3' L0 c3') L0 (sts MM) rfl (own_ext HOW0.out ((Ext.refl _).alloc _)) _ 1 1 (stc (s1, (s2, s3), s4)) rfl (Row.fresh' _ _ 4 #[.int .i64 s1, .int .i64 s2, .int .i64 s3, .int .i64 s4] 1 _ (by first | rfl | simp) rfl hml1) (by simp [stc, Value.oneCell']) (by omega) (by unfold maxLen; omega) (by simp; omega) ?_)
          intro A5 c5 w5 HO5 HG5 HL5
          have HX5 : Hid (Ext w2 w5) := (HX0.out.alloc _).grown HG5.out fun g hg => (HOW0.out.lt g hg).1
          have HD5 : Hid (w5.ownsRow w2.heap.size 3 1 u18 j (ints ((List.range j).map (dueN T I)))) := by
            have hb := own_ext (own_ext HDU.out ((Ext.refl wr).alloc (.cells #[.int .i64 s1, .int .i64 s2, .int .i64 s3, .int .i64 s4] 30))) ((Ext.refl (wr.alloc (.cells #[.int .i64 s1, .int .i64 s2, .int .i64 s3, .int .i64 s4] 30))).alloc (.cells #[.int .i64 s1, .int .i64 s2, .int .i64 s3, .int .i64 s4] 30))
            have ho := own_ext HOW0.out ((Ext.refl (wr.alloc (.cells #[.int .i64 s1, .int .i64 s2, .int .i64 s3, .int .i64 s4] 30))).alloc (.cells #[.int .i64 s1, .int .i64 s2, .int .i64 s3, .int .i64 s4] 30))
            rcases own_own_ne hb ho (by decide) with h0 | h0
            · exact hb.kept HG5.out (.inl h0)
            · exact hb.kept HG5.out (.inr h0)
          have hz5 := HX5.out.size
          clear q0 q1 q2 q3
          go_wp2_with (at_builtin; refine Stand.out ?_)
          refine Stand.mk (wpList_apps elInt rfl _ _ rfl w2.heap.size u18 j _ rfl (own_ext HD5.out ((Ext.refl _).alloc _)) _ 1 1 [.int .i64 ((L0 + 1 : Nat) : Int)] rfl (Row.fresh' _ _ 1 #[.int .i64 ((L0 + 1 : Nat) : Int)] 1 _ rfl rfl hml1) (by simp [Value.oneCell']) (by omega) (by unfold maxLen; omega) (by simp; omega) ?_)
          intro A6 c6 w6 HO6 HG6 HL6
          have HX6 : Hid (Ext w2 w6) := (HX5.out.alloc _).grown HG6.out fun g hg => (HD5.out.lt g hg).1
          have HO56 : Hid (w6.ownsRow w2.heap.size 30 4 (.slice A5 (L0 + 1) c5) (L0 + 1) (sts MM ++ stc (s1, (s2, s3), s4))) := by
            have ho := own_ext HO5.out ((Ext.refl w5).alloc (.cells #[.int .i64 ((L0 + 1 : Nat) : Int)] 3))
            have hb := own_ext HD5.out ((Ext.refl w5).alloc (.cells #[.int .i64 ((L0 + 1 : Nat) : Int)] 3))
            rcases own_own_ne ho hb (by decide) with h0 | h0
            · exact ho.kept HG6.out (.inl h0)
            · exact ho.kept HG6.out (.inr h0)
          go_wp2
          go_roundg (gk - 1)
          case measure => omega
          case rel =>
            refine ⟨j + 1, by go_num, by omega, ?_, ?_, HX6.out⟩
            · refine ⟨A5, c5, L0 + 1, rfl, by rw [HNX.out, List.length_append, HMM.out]; rfl, ?_⟩
              rw [HNX.out, sts_append]
              have e : sts [(s1, (s2, s3), s4)] = stc (s1, (s2, s3), s4) := by simp [sts]
              rw [e]; exact HO56.out
            · rw [List.range_succ, List.map_append, ints_append]
              have e : ints (List.map (dueN T I) [j]) = [.int .i64 ((L0 + 1 : Nat) : Int)] := by
                simp only [List.map_cons, List.map_nil, ints, dueN]
                rw [HNX.out, List.length_append, HMM.out]; rfl
              rw [e]; exact HO6.out
    · obtain rfl : m = j := by omega
      obtain ⟨A9, c9, rfl, hdu⟩ := own_form HDU.out
      have HDR := Lib.hid hdu
      have HMR := Lib.hid (Row.own HOW.out)
      clear hdu
      go_wp2_with fail
      refine (queueAll_ok B1 B2 _ _ q1 q2 xs T _ (HR1'.out.ext HE.out) (HR2.out.ext HE.out) (by omega) (by omega)).mono ?_
      rintro e w5 ⟨B5, q5, rfl, hr5, hx5⟩
      have HR5 := Lib.hid hr5
      have HX5 := Lib.hid hx5
      clear hr5 hx5
      go_wp2_with fail
      refine (queueAll_ok B1 A3' _ _ q1 c3' xs (moreTo T I m) w5 (HR1'.out.ext (HE.out.trans HX5.out)) (HMR.out.ext HX5.out) (by omega) (by omega)).mono ?_
      rintro e w6 ⟨B6, q6, rfl, hr6, hx6⟩
      have HR6 := Lib.hid hr6
      have HR5' := Lib.hid (HR5.out.ext hx6)
      have HDR' := Lib.hid (HDR.out.ext (HX5.out.trans hx6))
      have HEX := Lib.hid (HX2.out.trans (HE.out.trans (HX5.out.trans hx6)))
      have HQS : Hid (∀ d ∈ qall xs T, d.2.2.length ≤ 1099511627776) := Lib.hid fun d hd => Nat.le_trans (qall_small hxl (by rw [HTM.out]; exact hTl) d hd) (by omega)
      have HQM : Hid (∀ d ∈ qall xs (moreTo T I m), d.2.2.length ≤ 1099511627776) := Lib.hid fun d hd => Nat.le_trans (qall_small hxl (by rw [HMM.out]; exact hLb) d hd) (by omega)
      clear hr6 hx6
      have sw : IntKind.i64.wrap ((m : Int) + 1) = (m : Int) + 1 := IntWalk.i64_in _ (by omega)
      have sb : (((m : Int) + 1) != ((m : Int) + 1)) = false := by simp
      have sw2 : IntKind.i64.wrap ((L0 : Int) + 1) = (L0 : Int) + 1 := IntWalk.i64_in _ (by omega)
      have sb2 : (((L0 : Int) + 1) != ((L0 : Int) + 1)) = false := by simp
      go_wp2_with fail
      clear sw sb sw2 sb2
      go_loopg [88] m (fun kx s wr => ∃ i : Nat, s = .int .i64 (i : Int) ∧ i + kx = m ∧ Hid (Ext w6 wr))
      case atStart => exact ⟨0, rfl, by omega, Ext.refl _⟩
      case round =>
        obtain ⟨i, rfl, hik, HE6⟩ := hrel
        by_cases him : i < m
        · obtain ⟨b7, o7, x7, rfl, hx7, hc7⟩ := (HDR'.out.ext HE6.out).int_at (k := i) him
          obtain ⟨at_, hat⟩ : ∃ at_, at_ = (moreTo T I (i + 1)).length := ⟨_, rfl⟩
          obtain rfl : x7 = (at_ : Int) := by
            have h := hx7.out
            rw [List.getElem?_map, List.getElem?_range him] at h
            simp only [Option.map_some, Option.some.injEq] at h
            rw [← h, dueN, ← hat]
          have hatL : at_ ≤ L0 := by
            obtain ⟨U, hU⟩ := moreTo_grow T I (m - (i + 1)) (i + 1)
            rw [show i + 1 + (m - (i + 1)) = m by omega] at hU
            have h := HMM.out
            rw [hU, List.length_append, ← hat] at h
            omega
          obtain ⟨b5, o5, is5, u1, u2, l5, C5, r5, rfl, hl5, -, -, -, -, -⟩ := (HR5'.out.ext HE6.out).at_ (k := i + 1) (by omega)
          obtain ⟨b6, o6, is6, v1, v2, l6, C6, r6, rfl, hl6, -, -, -, -, -⟩ := (HR6.out.ext HE6.out).at_ (k := at_) (by omega)
          have HD5 := Lib.hid ((HR5'.out.ext HE6.out).one (by omega) hl5.out)
          have HD6 := Lib.hid ((HR6.out.ext HE6.out).one (by omega) hl6.out)
          have HLK : Hid (RowsLike [(is5, (u1, u2), l5)] [(is6, (v1, v2), l6)]) := by
            have h6 := hl6.out
            rw [hat] at h6
            have e : moreTo T I m = moreTo T I T.length := by rw [HTM.out]
            rw [e] at h6
            exact due_like (by rw [HTM.out]; exact him) hl5.out h6
          have HS5 : Hid (RowsSmall [(is5, (u1, u2), l5)]) := fun d hd => by rw [List.mem_singleton] at hd; subst hd; exact HQS.out _ (List.mem_of_getElem? hl5.out)
          have HS6 : Hid (RowsSmall [(is6, (v1, v2), l6)]) := fun d hd => by rw [List.mem_singleton] at hd; subst hd; exact HQM.out _ (List.mem_of_getElem? hl6.out)
          have hq5 : m + 1 ≤ q5 := by obtain ⟨vs, _, hr, _⟩ := HR5'.out; exact hr.le
          have hq6 : L0 + 1 ≤ q6 := by obtain ⟨vs, _, hr, _⟩ := HR6.out; exact hr.le
          have hp5 : q5 ≤ 9223372036854775807 := by obtain ⟨vs, _, hr, _⟩ := HR5'.out; have := hr.cap; unfold maxLen at this; omega
          have hp6 : q6 ≤ 9223372036854775807 := by obtain ⟨vs, _, hr, _⟩ := HR6.out; have := hr.cap; unfold maxLen at this; omega
          clear hl5 hl6 hx7 hat
          have t1 : IntKind.i64.wrap ((i : Int) + 1) = (i : Int) + 1 := IntWalk.i64_in _ (by omega)
          have t2 : IntKind.i64.wrap ((i : Int) + 2) = (i : Int) + 2 := IntWalk.i64_in _ (by omega)
          have t3 : IntKind.i64.wrap ((at_ : Int) + 1) = (at_ : Int) + 1 := IntWalk.i64_in _ (by omega)
          have t4 : (0 : Int) ≤ (i : Int) + 1 := by omega
          have t5 : (0 : Int) ≤ (i : Int) + 2 := by omega
          have t6 : (i : Int) + 1 ≤ (i : Int) + 2 := by omega
          have t7 : (i : Int) + 2 ≤ (q5 : Int) := by omega
          have t8 : ((i : Int) + 1).toNat = i + 1 := by omega
          have t9 : ((i : Int) + 2).toNat = i + 2 := by omega
          have t10 : (0 : Int) ≤ (at_ : Int) + 1 := by omega
          have t11 : (at_ : Int) ≤ (at_ : Int) + 1 := by omega
          have t12 : (at_ : Int) + 1 ≤ (q6 : Int) := by omega
          have t13 : ((at_ : Int) + 1).toNat = at_ + 1 := by omega
          have t14 : ¬ q5 = i + 1 := by omega
          have t15 : ¬ q6 = at_ := by omega
          have t16 : i + 2 - (i + 1) = 1 := by omega
          have t17 : at_ + 1 - at_ = 1 := by omega
          go_wp2
          go_region_held3 (fun _ => True) (exact trivial)
            ((go_at_call 19; refine (alike_ok (some ⟨b5, o5 + (i + 1) * 4, none⟩) (some ⟨b6, o6 + at_ * 4, none⟩) 1 (q5 - (i + 1)) (q6 - at_) _ _ _ (HD5.out.ext (Ext.refl wr).drew) (HD6.out.ext (Ext.refl wr).drew) HLK.out HS5.out HS6.out).mono ?_; rintro e w7 ⟨rfl, hx7⟩))
          have HX7 : Hid (Ext w6 w7) := HE6.out.trans ((Ext.refl wr).drew.trans hx7)
          clear hx7 t1 t2 t3 t4 t5 t6 t7 t8 t9 t10 t11 t12 t13 t14 t15 t16 t17
          go_wp2
          go_roundg (gk - 1)
          case measure => omega
          case rel => exact ⟨i + 1, by go_num, by omega, HX7.out⟩
        · obtain rfl : m = i := by omega
          go_wp2
          exact bodyPost_ret (v := .bool true) (by simp [results, Try.results5, go_sem]) rfl ⟨rfl, HEX.out.trans HE6.out⟩
end Go.Proofs.Ytefeedpeiiaanaa
