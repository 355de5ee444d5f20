/- The contract of slices.Insert at Int: values are inserted into a row of the call's own. No statement of the seat is proved here. -/
import Derived.Test.YtaimljagflnfpaaInt
import Derived.IntWalk
namespace Go.Proofs.Ytaimljagflnfpaa
open Go.RowKit

/-- The capacity of a slice value. -/
def capOf : Value → Nat
  | .slice _ _ c => c
  | _ => 0
theorem capOf_slice (A : Option Addr) (n c : Nat) : capOf (.slice A n c) = c := rfl
/-- What is left of a row behind an edit in place: the new slice owns the new cells; only the old row, and what is new, has turned; under 'stay' the row is the old one. -/
def EditedInt (w : World) (base : Nat) (v : Value) (n : Nat) (xs : List Value) (stay : Prop) (e : Ending) (w' : World) : Prop :=
  ∃ v', e = .returned v' ∧ w'.ownsRow base 3 1 v' n xs ∧ w.grownBy w' v.ownBlock ∧ (v'.ownBlock = v.ownBlock ∨ (∃ g, v'.ownBlock = some g ∧ w.heap.size ≤ g) ∧ OldKept w' v) ∧ (stay → v'.ownBlock = v.ownBlock)

theorem overlapsInt (w : World) (b g o m d lb cb : Nat) (vcur cur : List Value) (hvb : Blk w b 3 vcur) (hb : Blk w g 3 cur) (hne : b ≠ g) (hc : cur ≠ []) :
    (callFunc 33 #[.slice (some ⟨b, 0, none⟩) m d, .slice (some ⟨g, o, none⟩) lb cb]).run Try.prog w = .ok (.value (.bool false)) w := by
  rw [run_callFunc_extern Try.func33 (by kernel_rfl) (by kernel_rfl) (by kernel_rfl) (e := Extern.SlicesOverlaps.overlaps #[22, 22] #[4]) (by kernel_rfl),
    Lib.run_overlaps_apart w 22 4 3 Try.underlying22 1 elInt.size ⟨b, 0, none⟩ ⟨g, o, none⟩ m d lb cb hne 3 3 vcur.length cur.length (by unfold Blk at hvb; simp [World.shape?, hvb]) (by unfold Blk at hb; simp [World.shape?, hb]) (by simpa using hc) (hvb.frozen 0) (hvb.frozen _)]
  rfl

set_option maxRecDepth 100000 in
set_option maxHeartbeats 1600000 in
theorem insertInt_ok (w : World) (base : Nat) (v : Value) (n : Nat) (xs : List Value) (i : Nat) (B : Option Addr) (m d : Nat) (ys : List Value) (hown : w.ownsRow base 3 1 v n xs) (hval : w.ownsRow 0 3 1 (.slice B m d) m ys)
    (h1 : ∀ u ∈ xs, u.oneCell' = true) (h2 : ∀ u ∈ ys, u.oneCell' = true) (hi : i ≤ n) (hn : n ≤ 17592186043904) (hm : n + m ≤ 17592186043904) (hne : ∀ g, (Value.slice B m d).ownBlock = some g → v.ownBlock ≠ some g) (hbase : base ≤ w.heap.size) :
    Calls Try.prog 28 #[v, .int .i64 (i : Int), .slice B m d] w (EditedInt w base v (n + m) (xs.take i ++ ys ++ xs.drop i) (n + m ≤ capOf v)) := by
  have hcase := own_cases1 hown
  have HOWN := Lib.hid hown
  have HVAL := Lib.hid hval
  have HNE := Lib.hid hne
  have H1 := Lib.hid h1
  have H2 := Lib.hid h2
  clear hown hval hne h1 h2
  have hkb : (n + m) * 8 ≤ 140737488355328 := by omega
  have hmx : n + m ≤ maxLen := by unfold maxLen; omega
  have HROW := Lib.hid (Row.own HVAL.out)
  have HXL := Lib.hid (own_len1 HOWN.out)
  have HYL := Lib.hid (own_len1 HVAL.out)
  by_cases hm0 : m = 0
  · have hys : ys = [] := List.eq_nil_of_length_eq_zero (by rw [HYL.out, hm0])
    have HR : Hid (w.ownsRow base 3 1 v (n + m) (xs.take i ++ ys ++ xs.drop i)) := Lib.hid (by subst hys hm0; simpa using HOWN.out)
    clear hys
    subst hm0
    rcases hcase with ⟨rfl, rfl, rfl⟩ | ⟨g, c, cur, rfl, hbg, hblk, hnc, hcm, hlen, htake⟩
    · obtain rfl : i = 0 := by omega
      go_enter Try.func28, Try.ntmps28
      go_wp2
      go_ret
      exact ⟨_, rfl, HR.out, World.grownBy.refl w _, .inl rfl, fun _ => rfl⟩
    · clear hblk htake hlen
      unfold maxLen at hcm
      by_cases hic : c = i
      all_goals
        go_enter Try.func28, Try.ntmps28
        go_wp2
        go_ret
        exact ⟨_, rfl, HR.out, World.grownBy.refl w _, .inl rfl, fun _ => rfl⟩
  · have hm1 : ((m : Int) == 0) = false := by simpa using hm0
    by_cases hin : i = n
    · subst hin
      have HX : Hid (xs ++ ys = xs.take i ++ ys ++ xs.drop i) := Lib.hid (by rw [List.take_of_length_le (by rw [HXL.out]; exact Nat.le_refl _), List.drop_of_length_le (by rw [HXL.out]; exact Nat.le_refl _)]; simp)
      rcases hcase with ⟨rfl, rfl, rfl⟩ | ⟨g, c, cur, rfl, hbg, hblk, hnc, hcm, hlen, htake⟩
      · go_enter Try.func28, Try.ntmps28
        go_wp2_with (with_reducible refine stand_at 25 ?_)
        refine Stand.mk (wpList_apps elInt rfl _ _ rfl base (.slice none 0 0) 0 _ rfl HOWN.out _ m d _ rfl HROW.out H2.out hkb hmx hbase ?_)
        intro A1 q1 w1 HO1 HG1 HL1
        go_wp2
        go_ret
        have ho := HO1.out
        have hl := HL1.out
        rw [HX.out, Nat.zero_add] at ho
        rw [Nat.zero_add] at hl
        refine ⟨.slice A1 m q1, rfl, by rw [Nat.zero_add]; exact ho, HG1.out, ?_, fun h => by rw [capOf_slice] at h; omega⟩
        rcases hl with h | h
        · exact .inl h
        · exact .inr ⟨⟨_, h, Nat.le_refl _⟩, OldKept.nil _⟩
      · have HB := Lib.hid hblk
        have HT := Lib.hid htake
        have HLN := Lib.hid hlen
        clear hblk htake hlen
        have hcm' := hcm
        unfold maxLen at hcm'
        by_cases hroom : i + m ≤ c
        · have hap := app_room1 w 22 g i c cur HB.out _ m d ys HROW.out H2.out hroom HLN.out
          have hB3 := HB.out.set (splice cur i ys)
          have hG3 := grown_setRow w g (splice cur i ys).toArray
          generalize w.setRow g (splice cur i ys).toArray = W3 at hap hB3 hG3
          have HAP := Lib.hid hap
          have HB3 := Lib.hid hB3
          have HG3 := Lib.hid hG3
          clear hap hB3 hG3
          by_cases hic : c = i
          · omega
          · go_enter Try.func28, Try.ntmps28
            go_wp2_with (with_reducible refine stand_at 25 ?_)
            refine Stand.mk (wpList_append_run rfl _ _ _ rfl _ _ rfl rfl _ _ HAP.out ?_)
            go_wp2
            go_ret
            have hfin := own_mk1 (base := base) (n := i + m) (c := c) hbg HB3.out hroom hcm (by rw [length_splice _ _ _ (by rw [HYL.out, HLN.out]; omega)]; exact HLN.out)
            have e1 : (splice cur i ys).take (i + m) = xs ++ ys := by
              rw [splice, ← List.append_assoc, HT.out, List.take_left']
              rw [List.length_append, HXL.out, HYL.out]
            rw [e1, HX.out] at hfin
            exact ⟨_, rfl, hfin, HG3.out, .inl rfl, fun _ => rfl⟩
        · obtain ⟨A1, q1, w1, hap, hown1, hx1⟩ := app_grows1 w 22 g 0 i c xs (Row.own HOWN.out) _ m d ys HROW.out (by omega) (by omega) (by omega)
          have HAP := Lib.hid hap
          have HO1 := Lib.hid hown1
          have HE1 := Lib.hid hx1
          clear hap hown1 hx1
          by_cases hic : c = i
          all_goals
            go_enter Try.func28, Try.ntmps28
            go_wp2_with (with_reducible refine stand_at 25 ?_)
            refine Stand.mk (wpList_append_run rfl _ _ _ rfl _ _ rfl rfl _ _ HAP.out ?_)
            go_wp2
            go_ret
            have ho := HO1.out
            rw [HX.out] at ho
            refine ⟨_, rfl, own_up ho hbase, grown_of_ext HE1.out _, ?_, fun h => absurd h (by rw [capOf_slice]; omega)⟩
            cases hA : (Value.slice A1 (i + m) q1).ownBlock with
            | none =>
              rcases ho.2 with ⟨h0, h1⟩ | ⟨g1, cap, cur1, h0, _⟩
              · omega
              · rw [h0] at hA; cases hA
            | some g1 => exact .inr ⟨⟨g1, hA, (ho.lt g1 hA).1⟩, OldKept.mk' (HB.out.ext HE1.out)⟩
    · have hin1 : ((i : Int) == (n : Int)) = false := by simp; omega
      rcases hcase with ⟨rfl, rfl, rfl⟩ | ⟨g, c, cur, rfl, hbg, hblk, hnc, hcm, hlen, htake⟩
      · omega
      · have HB := Lib.hid hblk
        have HT := Lib.hid htake
        have HLN := Lib.hid hlen
        clear hblk htake hlen
        have hcm' := hcm
        unfold maxLen at hcm'
        have hic : ¬ c = i := by omega
        rcases own_cases1 HVAL.out with ⟨_, h0, _⟩ | ⟨b, vc, vcur, hv, _, hvb, hvn, hvm, hvl, hvt⟩
        · exact absurd h0 hm0
        injection hv with hv1 hv2 hv3
        subst hv1 hv3
        have hgb : g ≠ b := fun h => HNE.out b rfl (by rw [h]; rfl)
        have HVB := Lib.hid hvb
        have HVT := Lib.hid hvt
        have HVL := Lib.hid hvl
        clear hv2 hvb hvt hvl hvm
        have HROWV : Hid (Row w 1 (some ⟨b, 0, none⟩) m d ys) := HROW
        have hsrc := (Row.own HOWN.out).tail1 (k := i) (by omega) hic
        simp only [Nat.zero_add] at hsrc
        have HS := Lib.hid hsrc
        clear hsrc
        obtain ⟨zs, hzs⟩ : ∃ zs, zs = xs.take i ++ ys ++ xs.drop i := ⟨_, rfl⟩
        rw [← hzs]
        have HZS := Lib.hid hzs
        clear hzs
        by_cases hroom : c < n + m
        · obtain ⟨c', cur', hrun, hc1, hc2, hcl, hct⟩ := app_zeros1 w 22 (some ⟨g, 0, none⟩) i c (n + m - i) (n + m) _ ((Row.own HOWN.out).head1 (k := i) (by omega)) (by omega) (by omega) hroom (by omega)
          have hB1 : Blk (w.drew.alloc (.cells cur'.toArray 3)) w.heap.size 3 cur' := heap_alloc_new w.drew _
          have hE1 : Ext w (w.drew.alloc (.cells cur'.toArray 3)) := (Ext.refl w).drew.alloc _
          generalize w.drew.alloc (.cells cur'.toArray 3) = W1 at hrun hB1 hE1
          have HRUN := Lib.hid hrun
          have HB1 := Lib.hid hB1
          have HE1 := Lib.hid hE1
          have HCL := Lib.hid hcl
          have HCT := Lib.hid hct
          clear hrun hB1 hE1 hcl hct
          have hc2' := hc2
          unfold maxLen at hc2'
          have hci : ¬ c' = i := by omega
          have hcim : ¬ c' = i + m := by omega
          go_enter Try.func28, Try.ntmps28
          go_wp2_with (with_reducible refine stand_at 40 ?_)
          refine Stand.mk (wpList_append_run rfl _ _ _ rfl _ _ rfl (show Value.int .i64 ((n : Int) + (m : Int) - (i : Int)) = .int .i64 ((n + m - i : Nat) : Int) from by rw [show ((n : Int) + (m : Int) - (i : Int)) = ((n + m - i : Nat) : Int) by omega]) _ _ HRUN.out ?_)
          go_wp2_with (with_reducible refine stand_at 45 ?_)
          have hcp1 := cp1 W1 3 w.heap.size i cur' HB1.out (some ⟨w.heap.size, i, none⟩) (n + m - i) (c' - i) (some ⟨b, 0, none⟩) m d m ys (HROW.out.ext HE1.out) (by omega) (fun u hu => H2.out u (List.mem_of_mem_take hu)) (fun _ => rfl) (by rw [HCL.out]; omega)
          rw [List.take_of_length_le (by rw [HYL.out]; exact Nat.le_refl _)] at hcp1
          have hB2 := HB1.out.set (splice cur' i ys)
          have hE2 := HE1.out.grown (grown_setRow W1 w.heap.size (splice cur' i ys).toArray) (fun k hk => by injection hk with hk; omega)
          generalize W1.setRow w.heap.size (splice cur' i ys).toArray = W2 at hcp1 hB2 hE2
          refine Stand.mk (wpList_copy_run rfl _ _ _ rfl _ _ rfl rfl _ _ hcp1 ?_)
          have HB2 := Lib.hid hB2
          have HE2 := Lib.hid hE2
          clear hB2 hE2 hcp1
          go_wp2
          have hcp2 := cp1 W2.drew 3 w.heap.size (i + m) _ HB2.out (some ⟨w.heap.size, i + m, none⟩) (n + m - (i + m)) (c' - (i + m)) (some ⟨g, i, none⟩) (n - i) (c - i) (n - i) (xs.drop i) (HS.out.ext HE2.out.drew) (by omega) (fun u hu => H1.out u (List.mem_of_mem_drop (List.mem_of_mem_take hu))) (fun _ => rfl) (by rw [length_splice _ _ _ (by rw [HYL.out, HCL.out]; omega), HCL.out]; omega)
          rw [List.take_of_length_le (by rw [List.length_drop, HXL.out]; omega)] at hcp2
          have hB3 := Blk.set (w := W2.drew) HB2.out (splice (splice cur' i ys) (i + m) (xs.drop i))
          have hE3 := HE2.out.drew.grown (grown_setRow W2.drew w.heap.size (splice (splice cur' i ys) (i + m) (xs.drop i)).toArray) (fun k hk => by injection hk with hk; omega)
          generalize W2.drew.setRow w.heap.size (splice (splice cur' i ys) (i + m) (xs.drop i)).toArray = W3 at hcp2 hB3 hE3
          have HB3 := Lib.hid hB3
          have HE3 := Lib.hid hE3
          clear hB3 hE3
          have sw : IntKind.i64.wrap ((i : Int) + (m : Int)) = (i : Int) + (m : Int) := IntWalk.i64_in _ (by omega)
          have sn : (0 : Int) ≤ (i : Int) + (m : Int) := by omega
          have sl : (i : Int) + (m : Int) ≤ (n : Int) + (m : Int) := by omega
          have st : ((i : Int) + (m : Int)).toNat = i + m := by omega
          go_region
          clear sw sn sl st hcp2
          go_wp2
          go_ret
          have hfin := own_mk1 (base := base) (n := n + m) (c := c') hbase HB3.out hc1 hc2 (by rw [length_splice _ _ _ (by rw [length_splice _ _ _ (by rw [HYL.out, HCL.out]; omega), List.length_drop, HXL.out, HCL.out]; omega), length_splice _ _ _ (by rw [HYL.out, HCL.out]; omega)]; exact HCL.out)
          rw [splice_new (by rw [HCL.out]; omega) (by rw [HYL.out]) (by rw [List.length_drop, HXL.out]; omega) (by rw [HCL.out]; omega), HCT.out, ← HZS.out] at hfin
          exact ⟨_, rfl, hfin, grown_of_ext HE3.out _, .inr ⟨⟨w.heap.size, rfl, Nat.le_refl _⟩, OldKept.mk' (HB.out.ext HE3.out)⟩, fun h => absurd h (by rw [capOf_slice]; omega)⟩
        · have hov := fun lb cb => overlapsInt w b g (i + m) m d lb cb vcur cur HVB.out HB.out (Ne.symm hgb) (fun h => by have := HLN.out; rw [h] at this; simp at this; omega)
          go_enter Try.func28, Try.ntmps28
          go_wp2_with fail
          have hcnm : n + m ≤ c := by omega
          have hrs := HB.out.row1 (n := n + m - i) (c := c - i) (o := i) (by omega) (by omega) (by rw [HLN.out]; omega)
          have htl : ((cur.drop i).take (n + m - i)).take (n - i) = xs.drop i := by
            rw [List.take_take, ← HT.out, List.drop_take]
            congr 1
            omega
          have hcp1 := cp1 w.drew 3 g (i + m) cur HB.out (some ⟨g, i + m, none⟩) (n + m - (i + m)) (c - (i + m)) (some ⟨g, i, none⟩) (n + m - i) (c - i) (n - i) _ hrs (by omega) (by rw [htl]; exact fun u hu => H1.out u (List.mem_of_mem_drop hu)) (fun _ => rfl) (by rw [HLN.out]; omega)
          rw [htl] at hcp1
          have hB2 := Blk.set (w := w.drew) HB.out (splice cur (i + m) (xs.drop i))
          have hG2 := grown_setRow w.drew g (splice cur (i + m) (xs.drop i)).toArray
          generalize w.drew.setRow g (splice cur (i + m) (xs.drop i)).toArray = W2 at hcp1 hB2 hG2
          have HB2 := Lib.hid hB2
          have HG2 : Hid (w.grownBy W2 (some g)) := Lib.hid ⟨hG2.os, hG2.tape, hG2.output, hG2.size, hG2.block⟩
          clear hB2 hG2 hrs htl
          have sw : IntKind.i64.wrap ((i : Int) + (m : Int)) = (i : Int) + (m : Int) := IntWalk.i64_in _ (by omega)
          have sn : (0 : Int) ≤ (i : Int) + (m : Int) := by omega
          have sl : (i : Int) + (m : Int) ≤ (n : Int) + (m : Int) := by omega
          have st : ((i : Int) + (m : Int)).toNat = i + m := by omega
          have si : (i : Int) ≤ (n : Int) + (m : Int) := by omega
          go_region
          clear sw sn sl st si hcp1
          go_wp2_with (with_reducible refine stand_at 82 ?_)
          have hvr : Row W2 1 (some ⟨b, 0, none⟩) m d ys := HROW.out.grownBy HG2.out (fun h => hgb (by injection h with h; exact h.symm))
          have hl2 : (splice cur (i + m) (xs.drop i)).length = c := by rw [length_splice _ _ _ (by rw [List.length_drop, HXL.out, HLN.out]; omega)]; exact HLN.out
          have hcp2 := cp1 W2 3 g i _ HB2.out (some ⟨g, i, none⟩) (n + m - i) (c - i) (some ⟨b, 0, none⟩) m d m ys hvr (by omega) (fun u hu => H2.out u (List.mem_of_mem_take hu)) (fun _ => rfl) (by rw [hl2]; omega)
          rw [List.take_of_length_le (by rw [HYL.out]; exact Nat.le_refl _)] at hcp2
          have hB3 := HB2.out.set (splice (splice cur (i + m) (xs.drop i)) i ys)
          have hG3 := grown_setRow W2 g (splice (splice cur (i + m) (xs.drop i)) i ys).toArray
          generalize W2.setRow g (splice (splice cur (i + m) (xs.drop i)) i ys).toArray = W3 at hcp2 hB3 hG3
          refine Stand.mk (wpList_copy_run rfl _ _ _ rfl _ _ rfl rfl _ _ hcp2 ?_)
          have HB3 := Lib.hid hB3
          have HG3 := Lib.hid (grown_trans HG2.out hG3)
          have HL2 := Lib.hid hl2
          clear hB3 hG3 hcp2 hl2 hvr
          go_wp2
          go_ret
          have hfin := own_mk1 (base := base) (n := n + m) (c := c) hbg HB3.out hcnm hcm (by rw [length_splice _ _ _ (by rw [HYL.out, HL2.out]; omega)]; exact HL2.out)
          rw [splice_up (by rw [HYL.out]) (by rw [List.length_drop, HXL.out]; omega) (by rw [HLN.out]; omega)] at hfin
          have htk : cur.take i = xs.take i := by
            rw [← HT.out, List.take_take]
            congr 1
            omega
          rw [htk, ← HZS.out] at hfin
          exact ⟨_, rfl, hfin, HG3.out, .inl rfl, fun _ => rfl⟩
end Go.Proofs.Ytaimljagflnfpaa
