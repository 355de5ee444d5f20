/- The walk of laws.FnEditsMapped: it returns true. The statement itself stands in the next file. -/
import Derived.Test.YtaimljagflnfpaaTurned
import Derived.Deep.RegionHeld3
namespace Go.Proofs.Ytaimljagflnfpaa
open Go.RowKit

theorem elLists : El Try.prog 32 22 1 24 := El.mk' (z := .slice none 0 0) Try.underlying32 (by kernel_rfl) rfl (by decide)
def lcell (_ : List Int) (v : Value) : List Value := [v]
theorem lcell_cells : ∀ (D : List (List Int)) (vs : List Value), vs.length = D.length → recCells lcell D vs = vs
  | [], [], _ => rfl
  | _ :: D, v :: vs, h => by simp only [recCells, lcell, lcell_cells D vs (by simpa using h)]; rfl
  | [], _ :: _, h => by simp at h
  | _ :: _, [], h => by simp at h
theorem recs_lists {w : World} {A : Option Addr} {n c : Nat} {D : List (List Int)} (h : Recs lcell id 1 w A n c D) : Lists w A n c D := by
  obtain ⟨vs, hl, hr, hi⟩ := h
  rw [lcell_cells D vs hl] at hr
  exact ⟨vs, hr, hl, fun i xs hx => let ⟨B, q, h1, h2⟩ := hi i xs hx; ⟨B, xs.length, q, h1, h2⟩⟩
theorem scriptP_map (f : Int → Int) (ops fr to_ : List Int) (vals : List (List Int)) : scriptP ops fr to_ (vals.map (List.map f)) = (scriptP ops fr to_ vals).map (mapE f) := by
  refine List.ext_getElem? fun i => ?_
  have hg : (vals.map (List.map f)).getD i [] = (vals.getD i []).map f := by
    rw [List.getD_eq_getElem?_getD, List.getD_eq_getElem?_getD, List.getElem?_map]
    cases vals[i]? <;> simp
  rw [scriptP_get, List.getElem?_map, scriptP_get, Option.map_map]
  congr 1
  funext o
  simp only [Function.comp, edtAt, mapE, hg]
theorem flatten_map (f : Int → Int) (vals : List (List Int)) : (vals.map (List.map f)).flatten.length = vals.flatten.length := by
  rw [← List.map_flatten, List.length_map]
theorem scriptP_mem {P : Int → Prop} {ops fr to_ : List Int} {vals : List (List Int)} (h : ∀ xs ∈ vals, ∀ x ∈ xs, P x) : ∀ e ∈ scriptP ops fr to_ vals, ∀ x ∈ e.2.2.2, P x := by
  intro e he x hx
  obtain ⟨i, hi⟩ := List.mem_iff_getElem?.1 he
  rw [scriptP_get] at hi
  cases ho : ops[i]? with
  | none => rw [ho] at hi; cases hi
  | some o =>
    rw [ho] at hi
    injection hi with hi
    subst hi
    have hx' : x ∈ vals.getD i [] := hx
    rw [List.getD_eq_getElem?_getD] at hx'
    cases hv : vals[i]? with
    | none => rw [hv] at hx'; cases hx'
    | some xs => rw [hv] at hx'; exact h xs (List.mem_of_getElem? hv) x hx'

set_option maxRecDepth 100000 in
set_option maxHeartbeats 3200000 in
theorem fnEditsMapped_ok (A0 A1 A2 A3 A4 : Option Addr) (n0 n1 n2 n3 n4 c0 c1 c2 c3 c4 : Nat) (xs ops fr to_ : List Int) (vals : List (List Int)) (mask : Int) (w : World) (h0 : Row w 1 A0 n0 c0 (ints xs)) (h1 : Row w 1 A1 n1 c1 (ints ops)) (h2 : Row w 1 A2 n2 c2 (ints fr)) (h3 : Row w 1 A3 n3 c3 (ints to_)) (h4 : Lists w A4 n4 c4 vals)
    (hn0 : n0 ≤ 1048576) (hn1 : n1 ≤ 1048576) (hn4 : n4 ≤ 1048576) (hv : vals.flatten.length ≤ 1048576) (hwx : ∀ x ∈ xs, In64 x) (hwv : ∀ l ∈ vals, ∀ x ∈ l, In64 x) :
    Calls Try.prog 8 #[.slice A0 n0 c0, .slice A1 n1 c1, .slice A2 n2 c2, .slice A3 n3 c3, .slice A4 n4 c4, .int .i64 mask] w fun e w' => e = .returned (.bool true) ∧ Ext w w' := by
  have hev := evals_le ops fr to_ vals
  have hel := scriptP_length ops fr to_ vals
  rw [h1.ints_len] at hel
  have hxn := h0.ints_len
  have hvn := h4.len
  have hml := h4.lim
  unfold maxLen at hml
  obtain ⟨E, hE⟩ : ∃ E, E = scriptP ops fr to_ vals := ⟨_, rfl⟩
  rw [← hE] at hev hel
  have hE2 : scriptP ops fr to_ (vals.map (List.map (tf mask))) = E.map (mapE (tf mask)) := by rw [hE]; exact scriptP_map _ _ _ _ _
  have hin : ∀ e ∈ E, ∀ x ∈ e.2.2.2, In64 x := by rw [hE]; exact scriptP_mem hwv
  have hev2 := evals_le ops fr to_ (vals.map (List.map (tf mask)))
  rw [hE2, flatten_map] at hev2
  have hmap : erows (xs.map (tf mask)) (E.map (mapE (tf mask))) = (erows xs E).map fun d => (d.1, d.2.map (tf mask)) := by
    have e1 : E.map (mapE (tf mask)) = E.map (mapE (tg mask)) := List.map_congr_left fun e he => by
      unfold mapE
      rw [map_tg mask e.2.2.2 (hin e he)]
    rw [map_tg mask xs hwx, e1, erows_map (tg mask) (tg_inj mask)]
    refine List.map_congr_left fun d hd => ?_
    rw [map_tg mask d.2 (erows_mem In64 xs E hwx hin d hd)]
  have H0 := Lib.hid h0
  have H1 := Lib.hid h1
  have H2 := Lib.hid h2
  have H3 := Lib.hid h3
  have H4 := Lib.hid h4
  have HE := Lib.hid hE
  have HE2 := Lib.hid hE2
  have HEV := Lib.hid hev
  have HEV2 := Lib.hid hev2
  have HEL := Lib.hid hel
  have HXN := Lib.hid hxn
  have HVN := Lib.hid hvn
  have HV := Lib.hid hv
  have HMAP := Lib.hid hmap
  clear h0 h1 h2 h3 h4 hev hev2 hel hE hE2 hxn hvn hmap hin hwx hwv hv
  go_enter Try.func8, Try.ntmps8
  go_wp2
  go_loopg [13, 22] n4 (fun kx v i wr => ∃ k : Nat, k + kx = n4 ∧ i = .int .i64 (k : Int) ∧ Hid (OwnRecs lcell id 1 22 wr w.heap.size none v ((vals.take k).map (List.map (tf mask)))) ∧ Hid (Ext w wr))
  case atStart => exact ⟨0, by omega, rfl, OwnRecs.nil _ _ _ _ (own_lit0 w _ _), (Ext.refl w).alloc _⟩
  case round =>
    obtain ⟨k, hk, rfl, HO, HW⟩ := hrel
    by_cases hlt : k < n4
    · obtain ⟨b, o, V, m, d, ys, rfl, hc1, hLk, hrow⟩ := (H4.out.ext HW.out).at_ (k := k) hlt
      have hfl := flat_le hLk.out
      have hyl := hrow.out.ints_len
      have hym : m ≤ 1048576 := by have := HV.out; omega
      obtain ⟨D, hD⟩ : ∃ D, D = (vals.take k).map (List.map (tf mask)) := ⟨_, rfl⟩
      rw [← hD] at HO
      have hDl : D.length = k := by rw [hD, List.length_map, List.length_take, HVN.out]; omega
      have HN : Hid ((vals.take (k + 1)).map (List.map (tf mask)) = D ++ [ys.map (tf mask)]) := Lib.hid (by rw [take_snoc hLk.out, List.map_append, ← hD]; rfl)
      have HDL := Lib.hid hDl
      obtain ⟨vs0, hvl, hu8, -⟩ := HO.out
      have HU8 := Lib.hid hu8
      have hb2 : (D.length + 1) * 24 ≤ 140737488355328 := by rw [hDl]; omega
      have hx2 : D.length + 1 ≤ maxLen := by rw [hDl]; unfold maxLen; omega
      have HB2 := Lib.hid hb2
      have HX2 := Lib.hid hx2
      have hml1 : 1 ≤ maxLen := by unfold maxLen; omega
      have hz := HW.out.size
      have HYL := Lib.hid hyl
      clear hD hDl hvl hu8 hb2 hx2 hfl hyl
      go_wp2_with fail
      refine (turned_ok V m d ys mask wr hrow.out (by omega)).mono ?_
      rintro e w3 ⟨v3, rfl, k1, k2⟩
      obtain ⟨C3, q3, rfl, -⟩ := own_form k1
      have HO3 := Lib.hid k1
      have HE3 := Lib.hid k2
      have hz3 := k2.size
      clear k1 k2
      go_wp2_with (with_reducible refine stand_at 31 ?_)
      refine Stand.mk (wpList_apps elLists rfl _ _ rfl w.heap.size u13 D.length (recCells lcell D vs0) rfl (own_ext HU8.out (HE3.out.alloc _)) _ 1 1 [.slice C3 m q3] rfl (Row.fresh' _ _ 1 #[.slice C3 m q3] 1 _ rfl rfl hml1) (by simp [Value.oneCell']) HB2.out HX2.out (by simp; omega) ?_)
      intro A9 c9 w5 HO9 HG9 HL9
      go_wp2
      go_roundg (gk - 1)
      case measure => omega
      case rel =>
        refine ⟨k + 1, by omega, by go_num, ?_, (HW.out.trans (HE3.out.alloc _)).grown HG9.out fun g hg => (HU8.out.lt g hg).1⟩
        have hoff : OffI w3 none (ys.map (tf mask)) (.slice C3 m q3) := OffI.own HO3.out (by
          cases C3 with
          | none => exact .inr rfl
          | some a => exact .inl (by simp [Value.ownBlock]))
        have hp := OwnRecs.push (d := ys.map (tf mask)) (x := .slice C3 m q3) HO.out (by decide) (HE3.out.alloc _) (hoff.ext ((Ext.refl _).alloc _)) HG9.out (u' := .slice A9 (D.length + 1) c9) (fun vs' _ h' => by rw [own_uniq h' (own_ext HU8.out (HE3.out.alloc _))]; exact HO9.out)
        rw [HN.out]
        exact hp
    · obtain rfl : k = n4 := by omega
      have e1 : vals.take k = vals := List.take_of_length_le (by rw [HVN.out]; exact Nat.le_refl _)
      rw [e1] at HO
      obtain ⟨C9, q9, rfl, hrec⟩ := OwnRecs.recs HO.out
      have hvl2 : (vals.map (List.map (tf mask))).length = k := by rw [List.length_map, HVN.out]
      rw [hvl2] at hrec ⊢
      have HL9 := Lib.hid (recs_lists hrec)
      clear hrec e1 hvl2 hlt hk
      go_wp2_with fail
      refine (script_ok A1 A2 A3 A4 n1 n2 n3 k c1 c2 c3 c4 ops fr to_ vals wr (H1.out.ext HW.out) (H2.out.ext HW.out) (H3.out.ext HW.out) (H4.out.ext HW.out) (by omega) (by have := HV.out; omega)).mono ?_
      rintro e w1 ⟨u, rfl, k1, k2⟩
      obtain ⟨C0, q0, rfl, k3⟩ := script_form k1
      rw [← HE.out, HEL.out] at k3 ⊢
      have HT := Lib.hid k3
      have HW1 := Lib.hid (HW.out.trans k2)
      have HL9' := Lib.hid (HL9.out.ext k2)
      clear k1 k2 k3
      go_wp2_with fail
      refine (editsAll_ok A0 C0 n0 n1 c0 q0 xs 0 0 E w1 (H0.out.ext HW1.out) HT.out (by decide) (by have := HEV.out; have := HV.out; omega) (by omega)).mono ?_
      rintro e w2 ⟨C1, q1, D1, rfl, k1, k2, k3, k4⟩
      have HD1 := Lib.hid k1
      have HM1 := Lib.hid k2
      have HW2 := Lib.hid (HW1.out.trans k4)
      have HL2 := Lib.hid (HL9'.out.ext k4)
      clear k1 k2 k3 k4
      go_wp2_with fail
      refine (turned_ok A0 n0 c0 xs mask w2 (H0.out.ext HW2.out) (by omega)).mono ?_
      rintro e w3 ⟨v3, rfl, k1, k2⟩
      obtain ⟨C3, q3, rfl, k3⟩ := own_form k1
      have HR3 := Lib.hid k3
      have HW3 := Lib.hid (HW2.out.trans k2)
      have HL3 := Lib.hid (HL2.out.ext k2)
      have HD3 := Lib.hid (Recs.ext HD1.out k2)
      clear k1 k2 k3
      go_wp2_with fail
      refine (script_ok A1 A2 A3 C9 n1 n2 n3 k c1 c2 c3 q9 ops fr to_ (vals.map (List.map (tf mask))) w3 (H1.out.ext HW3.out) (H2.out.ext HW3.out) (H3.out.ext HW3.out) HL3.out (by omega) (by rw [flatten_map]; have := HV.out; omega)).mono ?_
      rintro e w4 ⟨u, rfl, k1, k2⟩
      obtain ⟨C4, q4, rfl, k3⟩ := script_form k1
      rw [HE2.out, List.length_map, HEL.out] at k3 ⊢
      have HT4 := Lib.hid k3
      have HW4 := Lib.hid (HW3.out.trans k2)
      have HR4 := Lib.hid (HR3.out.ext k2)
      have HD4 := Lib.hid (Recs.ext HD3.out k2)
      clear k1 k2 k3
      go_wp2_with fail
      refine (editsAll_ok C3 C4 n0 n1 q3 q4 (xs.map (tf mask)) 0 0 (E.map (mapE (tf mask))) w4 HR4.out HT4.out (by decide) (by have := HEV2.out; have := HV.out; omega) (by omega)).mono ?_
      rintro e w5 ⟨C5, q5, D5, rfl, k1, k2, k3, k4⟩
      rw [HMAP.out] at k2
      have HD5 := Lib.hid k1
      have HM5 := Lib.hid k2
      have HW5 := Lib.hid (HW4.out.trans k4)
      have HD1' := Lib.hid (Recs.ext HD4.out k4)
      clear k1 k2 k3 k4
      have hnm := H1.out.lim
      unfold maxLen at hnm
      go_wp2
      go_loopg [63] n1 (fun kx i wr => ∃ k : Nat, k + kx = n1 ∧ i = .int .i64 (k : Int) ∧ Hid (Ext w5 wr))
      case atStart => exact ⟨0, by omega, rfl, Ext.refl _⟩
      case round =>
        obtain ⟨j, hj, rfl, HEX⟩ := hrel
        by_cases hlt : j < n1
        · obtain ⟨b1, o1, p1, l1, s1, B1, t1, rfl, hd1, a0, a1, a2, hr1⟩ := erows_at (Recs.ext HD1'.out HEX.out) (k := j) hlt
          obtain ⟨b2, o2, p2, l2, s2, B2, t2, rfl, hd2, b0, b3, b4, hr2⟩ := erows_at (Recs.ext HD5.out HEX.out) (k := j) hlt
          have he1 := rows_at HM1.out hd1.out
          have he2 : D5[j]?.map (fun d => (d.1, d.2.1)) = (erows xs E)[j]?.map fun d => (d.1, d.2.map (tf mask)) := by
            rw [← List.getElem?_map, ← List.getElem?_map, HM5.out]
          rw [hd2.out, he1] at he2
          injection he2 with he2
          injection he2 with e3 e4
          simp only at e3 e4
          subst e3
          have HL2' := Lib.hid e4
          have hll : l2.length = l1.length := by rw [e4, List.length_map]
          have hl1 := hr1.out.lim
          unfold maxLen at hl1
          have hl1b : l1.length ≤ 2097152 := by
            obtain ⟨g1, g2⟩ := erows_get xs E j _ (List.getElem?_eq_getElem (by rw [HEL.out]; exact hlt))
            rw [g1] at he1
            injection he1 with he1
            injection he1 with _ he1
            rw [← he1, ← g2]
            have h1 := eend_length xs (E.take (j + 1))
            have h2 := evals_take E (j + 1)
            have h3 := HEV.out
            have h4 := HV.out
            have h5 := HXN.out
            omega
          have hpp : (p2 != p2) = false := by simp
          have HLL := Lib.hid hll
          clear he1 e4 hll a2 b4
          go_wp2
          go_region_held3 (fun w' => w'.cell? ⟨b1, o1 + j * 3, none⟩ = some (.bool p2) ∧ w'.cell? ⟨b1, o1 + j * 3 + 1, none⟩ = some (.slice B1 l1.length t1) ∧ w'.cell? ⟨b2, o2 + j * 3, none⟩ = some (.bool p2) ∧ w'.cell? ⟨b2, o2 + j * 3 + 1, none⟩ = some (.slice B2 l2.length t2))
            (first | (have hq : Ext wr w7 := ((Ext.refl wr).drew.trans hx6).trans hx7; exact ⟨hq.cell_some a0, hq.cell_some a1, hq.cell_some b0, hq.cell_some b3⟩) | (have hq : Ext wr w6 := (Ext.refl wr).drew.trans hx6; exact ⟨hq.cell_some a0, hq.cell_some a1, hq.cell_some b0, hq.cell_some b3⟩) | exact ⟨a0, a1, b0, b3⟩)
            (first | (go_at_call 16; refine (same_true A6 B2 l1.length l2.length c6 t2 l2 w6 (by rw [HL2'.out]; exact hrow6) (hr2.out.ext ((Ext.refl wr).drew.trans hx6))).mono ?_; rintro e w7 ⟨rfl, hx7⟩)
                   | (go_at_call 20; refine (turned_ok B1 l1.length t1 l1 mask _ (hr1.out.ext (Ext.refl wr).drew) (by omega)).mono ?_; rintro e w6 ⟨v6, rfl, hown6, hx6⟩; obtain ⟨A6, c6, rfl, hrow6⟩ := own_form hown6))
          have HW7 : Hid (Ext w5 w7) := HEX.out.trans (((Ext.refl wr).drew.trans hx6).trans hx7)
          clear hown6 hrow6 hx6 hx7
          go_wp2
          go_roundg (gk - 1)
          case measure => omega
          case rel => exact ⟨j + 1, by omega, by go_num, HW7.out⟩
        · go_wp2
          go_ret
          exact ⟨rfl, HW5.out.trans HEX.out⟩
end Go.Proofs.Ytaimljagflnfpaa
