/- The contract of slices.Insert at Item: values are inserted into a row of the call's own. No statement of the seat is proved here. -/
import Derived.Test.YtefeedpeiiaanaaItems
import Derived.Test.YtefeedpeiiaanaaLaws3
import Derived.IntWalk
namespace Go.Proofs.Ytefeedpeiiaanaa
open Go.RowKit

/-- What is left of a row behind an edit in place: the new slice owns the new cells; only the old row, and what is new, has turned. -/
def EditedItem (w : World) (base : Nat) (v : Value) (n : Nat) (xs : List Value) (e : Ending) (w' : World) : Prop :=
  ∃ v', e = .returned v' ∧ w'.ownsRow base 28 2 v' n xs ∧ w.grownBy w' v.ownBlock ∧ (v'.ownBlock = v.ownBlock ∨ ∃ g, v'.ownBlock = some g ∧ w.heap.size ≤ g)

theorem overlapsItem (w : World) (b g o m d lb cb : Nat) (vcur cur : List Value) (hvb : Blk w b 28 vcur) (hb : Blk w g 28 cur) (hne : b ≠ g) (hc : cur ≠ []) :
    (callFunc 44 #[.slice (some ⟨b, 0, none⟩) m d, .slice (some ⟨g, o, none⟩) lb cb]).run Try.prog w = .ok (.value (.bool false)) w := by
  rw [run_callFunc_extern Try.func44 (by kernel_rfl) (by kernel_rfl) (by kernel_rfl) (e := Extern.SlicesOverlaps.overlaps #[23, 23] #[4]) (by kernel_rfl),
    Lib.run_overlaps_apart w 23 4 28 Try.underlying23 2 elItem.size ⟨b, 0, none⟩ ⟨g, o, none⟩ m d lb cb hne 28 28 vcur.length cur.length (by unfold Blk at hvb; simp [World.shape?, hvb]) (by unfold Blk at hb; simp [World.shape?, hb]) (by simpa using hc) (hvb.frozen 0) (hvb.frozen _)]
  rfl

set_option maxRecDepth 100000 in
set_option maxHeartbeats 1600000 in
theorem insertItem_ok (w : World) (base : Nat) (v : Value) (n : Nat) (xs : List Value) (i : Nat) (B : Option Addr) (m d : Nat) (ys : List Value) (hown : w.ownsRow base 28 2 v n xs) (hval : w.ownsRow 0 28 2 (.slice B m d) m ys)
    (h1 : ∀ u ∈ xs, u.oneCell' = true) (h2 : ∀ u ∈ ys, u.oneCell' = true) (hi : i ≤ n) (hn : n ≤ 1099511627776) (hm : m ≤ 1099511627776) (hne : ∀ g, (Value.slice B m d).ownBlock = some g → v.ownBlock ≠ some g) (hbase : base ≤ w.heap.size) :
    Calls Try.prog 36 #[v, .int .i64 (i : Int), .slice B m d] w (EditedItem w base v (n + m) (xs.take (i * 2) ++ ys ++ xs.drop (i * 2))) := by
  have hcase := own_cases hown
  have HOWN := Lib.hid hown
  have HVAL := Lib.hid hval
  have HNE := Lib.hid hne
  have H1 := Lib.hid h1
  have H2 := Lib.hid h2
  clear hown hval hne h1 h2
  have hkb : (n + m) * 16 ≤ 140737488355328 := by omega
  have hmx : n + m ≤ maxLen := by unfold maxLen; omega
  have HROW := Lib.hid (Row.own HVAL.out)
  by_cases hm0 : m = 0
  · have hys : ys = [] := List.eq_nil_of_length_eq_zero (by rw [HVAL.out.1, hm0, Nat.zero_mul])
    have HR : Hid (w.ownsRow base 28 2 v (n + m) (xs.take (i * 2) ++ ys ++ xs.drop (i * 2))) := Lib.hid (by subst hys hm0; simpa using HOWN.out)
    clear hys
    subst hm0
    rcases hcase with ⟨rfl, rfl, rfl⟩ | ⟨g, c, cur, rfl, hbg, hblk, hnc, hcm, hlen, htake⟩
    · obtain rfl : i = 0 := by omega
      go_enter Try.func36, Try.ntmps36
      go_wp2
      go_ret
      exact ⟨_, rfl, HR.out, World.grownBy.refl w _, .inl rfl⟩
    · clear hblk htake hlen
      unfold maxLen at hcm
      by_cases hic : c = i
      all_goals
        go_enter Try.func36, Try.ntmps36
        go_wp2
        go_ret
        exact ⟨_, rfl, HR.out, World.grownBy.refl w _, .inl rfl⟩
  · have hm1 : ((m : Int) == 0) = false := by simpa using hm0
    by_cases hin : i = n
    · subst hin
      have HX : Hid (xs ++ ys = xs.take (i * 2) ++ ys ++ xs.drop (i * 2)) := Lib.hid (by rw [List.take_of_length_le (by rw [HOWN.out.1]; exact Nat.le_refl _), List.drop_of_length_le (by rw [HOWN.out.1]; exact Nat.le_refl _)]; simp)
      rcases hcase with ⟨rfl, rfl, rfl⟩ | ⟨g, c, cur, rfl, hbg, hblk, hnc, hcm, hlen, htake⟩
      · go_enter Try.func36, Try.ntmps36
        go_wp2_with (with_reducible refine stand_at 25 ?_)
        refine Stand.mk (wpList_apps elItem rfl _ _ rfl base (.slice none 0 0) 0 _ rfl HOWN.out _ m d _ rfl HROW.out H2.out hkb hmx hbase ?_)
        intro A1 q1 w1 HO1 HG1 HL1
        go_wp2
        go_ret
        have ho := HO1.out
        have hl := HL1.out
        rw [HX.out, Nat.zero_add] at ho
        rw [Nat.zero_add] at hl
        refine ⟨.slice A1 m q1, rfl, by rw [Nat.zero_add]; exact ho, HG1.out, ?_⟩
        rcases hl with h | h
        · exact .inl h
        · exact .inr ⟨_, h, Nat.le_refl _⟩
      · clear hblk htake hlen
        unfold maxLen at hcm
        by_cases hic : c = i
        all_goals
          go_enter Try.func36, Try.ntmps36
          go_wp2_with (with_reducible refine stand_at 25 ?_)
          refine Stand.mk (wpList_apps elItem rfl _ _ rfl base (.slice (some ⟨g, 0, none⟩) i c) i _ rfl HOWN.out _ m d _ rfl HROW.out H2.out hkb hmx hbase ?_)
          intro A1 q1 w1 HO1 HG1 HL1
          go_wp2
          go_ret
          rw [HX.out] at HO1
          refine ⟨_, rfl, HO1.out, HG1.out, ?_⟩
          rcases HL1.out with h | h
          · exact .inl h
          · exact .inr ⟨_, h, Nat.le_refl _⟩
    · have hin1 : ((i : Int) == (n : Int)) = false := by simp; omega
      rcases hcase with ⟨rfl, rfl, rfl⟩ | ⟨g, c, cur, rfl, hbg, hblk, hnc, hcm, hlen, htake⟩
      · omega
      · have HB := Lib.hid hblk
        have HT := Lib.hid htake
        have HLN := Lib.hid hlen
        clear hblk htake hlen
        have hcm' := hcm
        unfold maxLen at hcm'
        have hic : ¬ c = i := by omega
        rcases own_cases HVAL.out with ⟨_, h0, _⟩ | ⟨b, vc, vcur, hv, _, hvb, hvn, hvm, hvl, hvt⟩
        · exact absurd h0 hm0
        injection hv with hv1 hv2 hv3
        subst hv1 hv3
        have hgb : g ≠ b := fun h => HNE.out b rfl (by rw [h]; rfl)
        have HVB := Lib.hid hvb
        have HVT := Lib.hid hvt
        have HVL := Lib.hid hvl
        clear hv2 hvb hvt hvl hvm
        have HROWV : Hid (Row w 2 (some ⟨b, 0, none⟩) m d ys) := HROW
        have hsrc := (Row.own HOWN.out).tail (k := i) (by omega)
        rw [if_neg hic] at hsrc
        simp only [Option.map_some, add_zero_off, Nat.zero_add] at hsrc
        have HS := Lib.hid hsrc
        clear hsrc
        obtain ⟨zs, hzs⟩ : ∃ zs, zs = xs.take (i * 2) ++ ys ++ xs.drop (i * 2) := ⟨_, rfl⟩
        rw [← hzs]
        have HZS := Lib.hid hzs
        clear hzs
        have hxl : xs.length = n * 2 := HOWN.out.1
        have hyl : ys.length = m * 2 := HVAL.out.1
        have HXL := Lib.hid hxl
        have HYL := Lib.hid hyl
        clear hxl hyl
        by_cases hroom : c < n + m
        · obtain ⟨c', cur', hrun, hc1, hc2, hcl, hct⟩ := run_app_zeros (P := Try.prog) elItem (z := .agg #[.int .i64 0, .int .i64 0]) (by kernel_rfl) (tn := 3) (kn := .i64) Try.underlying3 w 23 (some ⟨g, 0, none⟩) i c (n + m - i) _ ((Row.own HOWN.out).head (k := i) (by omega)) (by omega) (by omega) (by omega) (by unfold maxLen; omega)
          rw [show i + (n + m - i) = n + m by omega] at hrun hc1
          have hB1 : Blk (w.drew.alloc (.cells cur'.toArray 28)) w.heap.size 28 cur' := heap_alloc_new w.drew _
          have hE1 : Ext w (w.drew.alloc (.cells cur'.toArray 28)) := (Ext.refl w).drew.alloc _
          generalize w.drew.alloc (.cells cur'.toArray 28) = W1 at hrun hB1 hE1
          have HRUN := Lib.hid hrun
          have HB1 := Lib.hid hB1
          have HE1 := Lib.hid hE1
          have HCL := Lib.hid hcl
          have HCT := Lib.hid hct
          clear hrun hB1 hE1 hcl hct
          have hc2' := hc2
          unfold maxLen at hc2'
          have hci : ¬ c' = i := by omega
          have hcim : ¬ c' = i + m := by omega
          go_enter Try.func36, Try.ntmps36
          go_wp2_with (with_reducible refine stand_at 40 ?_)
          refine Stand.mk (wpList_append_run rfl _ _ _ rfl _ _ rfl (show Value.int .i64 ((n : Int) + (m : Int) - (i : Int)) = .int .i64 ((n + m - i : Nat) : Int) from by rw [show ((n : Int) + (m : Int) - (i : Int)) = ((n + m - i : Nat) : Int) by omega]) _ _ HRUN.out ?_)
          go_wp2_with (with_reducible refine stand_at 45 ?_)
          have hmin1 : min m (n + m - i) = m := by omega
          have hcp1 := run_cp (P := Try.prog) elItem W1 3 23 w.heap.size (i * 2) cur' HB1.out (some ⟨w.heap.size, i * 2, none⟩) (n + m - i) (c' - i) (some ⟨b, 0, none⟩) m d ys (HROW.out.ext HE1.out) (fun u hu => H2.out u (List.mem_of_mem_take hu)) (fun _ => rfl) (by rw [hmin1, HCL.out]; omega)
          rw [hmin1, List.take_of_length_le (by rw [HYL.out]; exact Nat.le_refl _)] at hcp1
          have hB2 := HB1.out.set (splice cur' (i * 2) ys)
          have hE2 := HE1.out.grown (grown_setRow W1 w.heap.size (splice cur' (i * 2) ys).toArray) (fun k hk => by injection hk with hk; omega)
          generalize W1.setRow w.heap.size (splice cur' (i * 2) ys).toArray = W2 at hcp1 hB2 hE2
          refine Stand.mk (wpList_copy_run rfl _ _ _ rfl _ _ rfl rfl _ _ hcp1 ?_)
          have HB2 := Lib.hid hB2
          have HE2 := Lib.hid hE2
          clear hB2 hE2 hcp1
          go_wp2
          have hmin2 : min (n - i) (n + m - (i + m)) = n - i := by omega
          have hcp2 := run_cp (P := Try.prog) elItem W2.drew 3 23 w.heap.size ((i + m) * 2) _ HB2.out (some ⟨w.heap.size, (i + m) * 2, none⟩) (n + m - (i + m)) (c' - (i + m)) (some ⟨g, i * 2, none⟩) (n - i) (c - i) (xs.drop (i * 2)) (HS.out.ext HE2.out.drew) (fun u hu => H1.out u (List.mem_of_mem_drop (List.mem_of_mem_take hu))) (fun _ => rfl) (by rw [hmin2, length_splice _ _ _ (by rw [HYL.out, HCL.out]; omega), HCL.out]; omega)
          rw [hmin2, List.take_of_length_le (by rw [List.length_drop, HXL.out]; omega)] at hcp2
          have hB3 := Blk.set (w := W2.drew) HB2.out (splice (splice cur' (i * 2) ys) ((i + m) * 2) (xs.drop (i * 2)))
          have hE3 := HE2.out.drew.grown (grown_setRow W2.drew w.heap.size (splice (splice cur' (i * 2) ys) ((i + m) * 2) (xs.drop (i * 2))).toArray) (fun k hk => by injection hk with hk; omega)
          generalize W2.drew.setRow w.heap.size (splice (splice cur' (i * 2) ys) ((i + m) * 2) (xs.drop (i * 2))).toArray = W3 at hcp2 hB3 hE3
          have HB3 := Lib.hid hB3
          have HE3 := Lib.hid hE3
          clear hB3 hE3
          have sw : IntKind.i64.wrap ((i : Int) + (m : Int)) = (i : Int) + (m : Int) := IntWalk.i64_in _ (by omega)
          have sn : (0 : Int) ≤ (i : Int) + (m : Int) := by omega
          have sl : (i : Int) + (m : Int) ≤ (n : Int) + (m : Int) := by omega
          have st : ((i : Int) + (m : Int)).toNat = i + m := by omega
          go_region
          clear sw sn sl st hcp2
          go_wp2
          go_ret
          have hfin := own_mk (sz := 2) (base := base) (n := n + m) (c := c') hbase HB3.out hc1 hc2 (by rw [length_splice _ _ _ (by rw [length_splice _ _ _ (by rw [HYL.out, HCL.out]; omega), List.length_drop, HXL.out, HCL.out]; omega), length_splice _ _ _ (by rw [HYL.out, HCL.out]; omega)]; exact HCL.out)
          rw [splice_new (by rw [HCL.out]; omega) (by rw [HYL.out]; omega) (by rw [List.length_drop, HXL.out]; omega) (by rw [HCL.out]; omega), HCT.out, ← HZS.out] at hfin
          exact ⟨_, rfl, hfin, grown_of_ext HE3.out _, .inr ⟨w.heap.size, rfl, Nat.le_refl _⟩⟩
        · have hov := fun lb cb => overlapsItem w b g ((i + m) * 2) m d lb cb vcur cur HVB.out HB.out (Ne.symm hgb) (fun h => by have := HLN.out; rw [h] at this; simp at this; omega)
          go_enter Try.func36, Try.ntmps36
          go_wp2_with fail
          have hmin1 : min (n + m - i) (n + m - (i + m)) = n - i := by omega
          have hcnm : n + m ≤ c := by omega
          have hrs := HB.out.row (sz := 2) (n := n + m - i) (c := c - i) (o := i * 2) (by omega) (by omega) (by rw [HLN.out]; omega)
          have htl : ((cur.drop (i * 2)).take ((n + m - i) * 2)).take ((n - i) * 2) = xs.drop (i * 2) := by
            rw [List.take_take, ← HT.out, List.drop_take]
            congr 1
            omega
          have hcp1 := run_cp (P := Try.prog) elItem w.drew 3 23 g ((i + m) * 2) cur HB.out (some ⟨g, (i + m) * 2, none⟩) (n + m - (i + m)) (c - (i + m)) (some ⟨g, i * 2, none⟩) (n + m - i) (c - i) _ hrs (by rw [hmin1, htl]; exact fun u hu => H1.out u (List.mem_of_mem_drop hu)) (fun _ => rfl) (by rw [hmin1, HLN.out]; omega)
          rw [hmin1, htl] at hcp1
          have hB2 := Blk.set (w := w.drew) HB.out (splice cur ((i + m) * 2) (xs.drop (i * 2)))
          have hG2 := grown_setRow w.drew g (splice cur ((i + m) * 2) (xs.drop (i * 2))).toArray
          generalize w.drew.setRow g (splice cur ((i + m) * 2) (xs.drop (i * 2))).toArray = W2 at hcp1 hB2 hG2
          have HB2 := Lib.hid hB2
          have HG2 : Hid (w.grownBy W2 (some g)) := Lib.hid ⟨hG2.os, hG2.tape, hG2.output, hG2.size, hG2.block⟩
          clear hB2 hG2 hrs htl
          have sw : IntKind.i64.wrap ((i : Int) + (m : Int)) = (i : Int) + (m : Int) := IntWalk.i64_in _ (by omega)
          have sn : (0 : Int) ≤ (i : Int) + (m : Int) := by omega
          have sl : (i : Int) + (m : Int) ≤ (n : Int) + (m : Int) := by omega
          have st : ((i : Int) + (m : Int)).toNat = i + m := by omega
          have si : (i : Int) ≤ (n : Int) + (m : Int) := by omega
          go_region
          clear sw sn sl st si hcp1
          go_wp2_with (with_reducible refine stand_at 82 ?_)
          have hmin2 : min m (n + m - i) = m := by omega
          have hvr : Row W2 2 (some ⟨b, 0, none⟩) m d ys := HROW.out.grownBy HG2.out (fun h => hgb (by injection h with h; exact h.symm))
          have hl2 : (splice cur ((i + m) * 2) (xs.drop (i * 2))).length = c * 2 := by rw [length_splice _ _ _ (by rw [List.length_drop, HXL.out, HLN.out]; omega)]; exact HLN.out
          have hcp2 := run_cp (P := Try.prog) elItem W2 3 23 g (i * 2) _ HB2.out (some ⟨g, i * 2, none⟩) (n + m - i) (c - i) (some ⟨b, 0, none⟩) m d ys hvr (fun u hu => H2.out u (List.mem_of_mem_take hu)) (fun _ => rfl) (by rw [hmin2, hl2]; omega)
          rw [hmin2, List.take_of_length_le (by rw [HYL.out]; exact Nat.le_refl _)] at hcp2
          have hB3 := HB2.out.set (splice (splice cur ((i + m) * 2) (xs.drop (i * 2))) (i * 2) ys)
          have hG3 := grown_setRow W2 g (splice (splice cur ((i + m) * 2) (xs.drop (i * 2))) (i * 2) ys).toArray
          generalize W2.setRow g (splice (splice cur ((i + m) * 2) (xs.drop (i * 2))) (i * 2) ys).toArray = W3 at hcp2 hB3 hG3
          refine Stand.mk (wpList_copy_run rfl _ _ _ rfl _ _ rfl rfl _ _ hcp2 ?_)
          have HB3 := Lib.hid hB3
          have HG3 := Lib.hid (grown_trans HG2.out hG3)
          have HL2 := Lib.hid hl2
          clear hB3 hG3 hcp2 hl2 hvr
          go_wp2
          go_ret
          have hfin := own_mk (sz := 2) (base := base) (n := n + m) (c := c) hbg HB3.out hcnm hcm (by rw [length_splice _ _ _ (by rw [HYL.out, HL2.out]; omega)]; exact HL2.out)
          rw [splice_up (by rw [HYL.out]; omega) (by rw [List.length_drop, HXL.out]; omega) (by rw [HLN.out]; omega)] at hfin
          have htk : cur.take (i * 2) = xs.take (i * 2) := by
            rw [← HT.out, List.take_take]
            congr 1
            omega
          rw [htk, ← HZS.out] at hfin
          exact ⟨_, rfl, hfin, HG3.out, .inl rfl⟩
end Go.Proofs.Ytefeedpeiiaanaa
