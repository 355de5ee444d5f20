/- The contract of slices.Replace at int: a part of a row of the call's own is replaced. No statement of the seat is proved here. -/
import Derived.Test.YtaimljagflnfpaaInsertInt
namespace Go.Proofs.Ytaimljagflnfpaa
open Go.RowKit

theorem overlapsInt' (w : World) (b g o m d lb cb : Nat) (vcur cur : List Value) (hvb : Blk w b 3 vcur) (hb : Blk w g 3 cur) (hne : b ≠ g) (hc : vcur ≠ []) :
    (callFunc 33 #[.slice (some ⟨g, o, none⟩) lb cb, .slice (some ⟨b, 0, none⟩) m d]).run Try.prog w = .ok (.value (.bool false)) w := by
  rw [run_callFunc_extern Try.func33 (by kernel_rfl) (by kernel_rfl) (by kernel_rfl) (e := Extern.SlicesOverlaps.overlaps #[22, 22] #[4]) (by kernel_rfl),
    Lib.run_overlaps_apart w 22 4 3 Try.underlying22 1 elInt.size ⟨g, o, none⟩ ⟨b, 0, none⟩ lb cb m d (Ne.symm hne) 3 3 cur.length vcur.length (by unfold Blk at hb; simp [World.shape?, hb]) (by unfold Blk at hvb; simp [World.shape?, hvb]) (by simpa using hc) (hb.frozen _) (hb.frozen _)]
  rfl

theorem take_splice {α : Type} (L Z : List α) (k : Nat) (hk : k ≤ L.length) : (splice L k Z).take k = L.take k := by
  rw [splice, List.take_append_of_le_length (by rw [List.length_take]; omega), List.take_take, Nat.min_self]

set_option maxRecDepth 100000 in
set_option maxHeartbeats 1600000 in
theorem replace_eq (w : World) (base : Nat) (v : Value) (n : Nat) (xs : List Value) (i : Nat) (B : Option Addr) (m d : Nat) (ys : List Value) (hown : w.ownsRow base 3 1 v n xs) (hval : w.ownsRow 0 3 1 (.slice B m d) m ys)
    (h1 : ∀ u ∈ xs, u.oneCell' = true) (h2 : ∀ u ∈ ys, u.oneCell' = true) (hi : i ≤ n) (hn : n ≤ 17592186043904) (hm : n + m ≤ 17592186043904) (hne : ∀ g, (Value.slice B m d).ownBlock = some g → v.ownBlock ≠ some g) (hbase : base ≤ w.heap.size) :
    Calls Try.prog 30 #[v, .int .i64 (i : Int), .int .i64 (i : Int), .slice B m d] w (EditedInt w base v (n + m) (xs.take i ++ ys ++ xs.drop i) (n + m ≤ capOf v)) := by
  have hc := insertInt_ok w base v n xs i B m d ys hown hval h1 h2 hi hn hm hne hbase
  have hcase := own_cases1 hown
  have HC := Lib.hid hc
  clear hown hval h1 h2 hne hc
  rcases hcase with ⟨rfl, rfl, rfl⟩ | ⟨g, c, cur, rfl, hbg, hblk, hnc, hcm, hlen, htake⟩
  · obtain rfl : i = 0 := by omega
    go_enter Try.func30, Try.ntmps30
    go_wp2_with fail
    refine HC.out.mono ?_
    rintro e w1 ⟨v', rfl, k1, k2, k3, k4⟩
    have HK := Lib.hid (And.intro k1 (And.intro k2 (And.intro k3 k4)))
    clear k1 k2 k3 k4
    go_wp2
    go_ret
    exact ⟨_, rfl, HK.out⟩
  · clear hblk htake hlen
    unfold maxLen at hcm
    by_cases hic : c = i
    · obtain rfl : i = n := by omega
      obtain rfl : c = i := hic
      go_enter Try.func30, Try.ntmps30
      go_wp2_with fail
      refine HC.out.mono ?_
      rintro e w1 ⟨v', rfl, k1, k2, k3, k4⟩
      have HK := Lib.hid (And.intro k1 (And.intro k2 (And.intro k3 k4)))
      clear k1 k2 k3 k4
      go_wp2
      go_ret
      exact ⟨_, rfl, HK.out⟩
    · go_enter Try.func30, Try.ntmps30
      go_wp2_with fail
      refine HC.out.mono ?_
      rintro e w1 ⟨v', rfl, k1, k2, k3, k4⟩
      have HK := Lib.hid (And.intro k1 (And.intro k2 (And.intro k3 k4)))
      clear k1 k2 k3 k4
      go_wp2
      go_ret
      exact ⟨_, rfl, HK.out⟩

set_option maxRecDepth 100000 in
set_option maxHeartbeats 1600000 in
theorem replace_end (w : World) (base : Nat) (v : Value) (n : Nat) (xs : List Value) (i : Nat) (B : Option Addr) (m d : Nat) (ys : List Value) (hown : w.ownsRow base 3 1 v n xs) (hval : w.ownsRow 0 3 1 (.slice B m d) m ys)
    (h2 : ∀ u ∈ ys, u.oneCell' = true) (hi : i < n) (hn : n ≤ 17592186043904) (hm : n + m ≤ 17592186043904) (hbase : base ≤ w.heap.size) :
    Calls Try.prog 30 #[v, .int .i64 (i : Int), .int .i64 (n : Int), .slice B m d] w (EditedInt w base v (i + m) (xs.take i ++ ys) (i + m ≤ n)) := by
  have hcase := own_cases1 hown
  have HOWN := Lib.hid hown
  have HVAL := Lib.hid hval
  have H2 := Lib.hid h2
  clear hown hval h2
  have HROW := Lib.hid (Row.own HVAL.out)
  have HXL := Lib.hid (own_len1 HOWN.out)
  have HYL := Lib.hid (own_len1 HVAL.out)
  have hin1 : ((i : Int) == (n : Int)) = false := by simp; omega
  rcases hcase with ⟨rfl, rfl, rfl⟩ | ⟨g, c, cur, rfl, hbg, hblk, hnc, hcm, hlen, htake⟩
  · omega
  have HB := Lib.hid hblk
  have HT := Lib.hid htake
  have HLN := Lib.hid hlen
  clear hblk htake hlen
  have hcm' := hcm
  unfold maxLen at hcm'
  have hic : ¬ c = i := by omega
  have htk : cur.take i = xs.take i := by
    rw [← HT.out, List.take_take]
    congr 1
    omega
  have HTK := Lib.hid htk
  clear htk
  by_cases hroom : i + m ≤ c
  · have hap := app_room1 w 22 g i c cur HB.out _ m d ys HROW.out H2.out hroom HLN.out
    have hB2 := HB.out.set (splice cur i ys)
    have hG2 := grown_setRow w g (splice cur i ys).toArray
    have hl2 : (splice cur i ys).length = c := by rw [length_splice _ _ _ (by rw [HYL.out, HLN.out]; omega)]; exact HLN.out
    have ht2 : (splice cur i ys).take (i + m) = xs.take i ++ ys := by
      rw [splice, ← List.append_assoc, HTK.out, List.take_left']
      rw [List.length_append, List.length_take, HXL.out, HYL.out]
      omega
    have HT2 := Lib.hid ht2
    have HL2 := Lib.hid hl2
    clear ht2 hl2
    generalize w.setRow g (splice cur i ys).toArray = W2 at hap hB2 hG2
    have HAP := Lib.hid hap
    have HB2 := Lib.hid hB2
    have HG2 := Lib.hid hG2
    clear hap hB2 hG2
    by_cases hcl0 : i + m < n
    · have hci : ¬ c = i + m := by omega
      have hcl := clr1 W2 0 g (i + m) _ HB2.out (some ⟨g, i + m, none⟩) (n - (i + m)) (c - (i + m)) (fun _ => rfl) (by rw [HL2.out]; omega)
      have hB3 := HB2.out.set (splice (splice cur i ys) (i + m) (zeros (.int .i64 0) (n - (i + m))))
      have hG3 := grown_setRow W2 g (splice (splice cur i ys) (i + m) (zeros (.int .i64 0) (n - (i + m)))).toArray
      generalize W2.setRow g (splice (splice cur i ys) (i + m) (zeros (.int .i64 0) (n - (i + m)))).toArray = W3 at hcl hB3 hG3
      have HB3 := Lib.hid hB3
      have HG3 := Lib.hid (grown_trans HG2.out hG3)
      clear hB3 hG3
      go_enter Try.func30, Try.ntmps30
      go_wp2_with (with_reducible refine stand_at 34 ?_)
      refine Stand.mk (wpList_append_run rfl _ _ _ rfl _ _ rfl rfl _ _ HAP.out ?_)
      go_wp2
      go_ret
      have hfin := own_mk1 (base := base) (n := i + m) (c := c) hbg HB3.out hroom hcm (by rw [length_splice _ _ _ (by rw [zerosInt_length, HL2.out]; omega)]; exact HL2.out)
      rw [take_splice _ _ _ (by rw [HL2.out]; exact hroom), HT2.out] at hfin
      exact ⟨_, rfl, hfin, HG3.out, .inl rfl, fun _ => rfl⟩
    · go_enter Try.func30, Try.ntmps30
      go_wp2_with (with_reducible refine stand_at 34 ?_)
      refine Stand.mk (wpList_append_run rfl _ _ _ rfl _ _ rfl rfl _ _ HAP.out ?_)
      go_wp2
      go_ret
      have hfin := own_mk1 (base := base) (n := i + m) (c := c) hbg HB2.out hroom hcm HL2.out
      rw [HT2.out] at hfin
      exact ⟨_, rfl, hfin, HG2.out, .inl rfl, fun _ => rfl⟩
  · have hr0 := HB.out.row1 (n := i) (c := c) (o := 0) (by omega) hcm (by rw [HLN.out]; omega)
    rw [List.drop_zero, HTK.out] at hr0
    obtain ⟨A1, q1, w1, hap, hown1, hx1⟩ := app_grows1 w 22 g 0 i c (xs.take i) hr0 _ m d ys HROW.out (by omega) (by omega) (by omega)
    have HAP := Lib.hid hap
    have HO1 := Lib.hid hown1
    have HE1 := Lib.hid hx1
    clear hap hown1 hx1 hr0
    go_enter Try.func30, Try.ntmps30
    go_wp2_with (with_reducible refine stand_at 34 ?_)
    refine Stand.mk (wpList_append_run rfl _ _ _ rfl _ _ rfl rfl _ _ HAP.out ?_)
    go_wp2
    go_ret
    have ho := HO1.out
    refine ⟨_, rfl, own_up ho hbase, grown_of_ext HE1.out _, ?_, fun h => by omega⟩
    cases hA : (Value.slice A1 (i + m) q1).ownBlock with
    | none =>
      rcases ho.2 with ⟨h0, h1⟩ | ⟨g1, cap, cur1, h0, _⟩
      · omega
      · rw [h0] at hA; cases hA
    | some g1 => exact .inr ⟨⟨g1, hA, (ho.lt g1 hA).1⟩, OldKept.mk' (HB.out.ext HE1.out)⟩
end Go.Proofs.Ytaimljagflnfpaa
