/- The contract of slices.Delete at int: a part of a row of the call's own is deleted. No statement of the seat is proved here. -/
import Derived.Test.YtaimljagflnfpaaInsertInt
namespace Go.Proofs.Ytaimljagflnfpaa
open Go.RowKit

set_option maxRecDepth 100000 in
set_option maxHeartbeats 1600000 in
theorem deleteInt_ok (w : World) (base : Nat) (v : Value) (n : Nat) (xs : List Value) (i j : Nat) (hown : w.ownsRow base 3 1 v n xs) (h1 : ∀ u ∈ xs, u.oneCell' = true) (hij : i ≤ j) (hj : j ≤ n) (hn : n ≤ 17592186043904) :
    Calls Try.prog 29 #[v, .int .i64 (i : Int), .int .i64 (j : Int)] w (EditedInt w base v (i + (n - j)) (xs.take i ++ xs.drop j) True) := by
  have hcase := own_cases1 hown
  have HOWN := Lib.hid hown
  have H1 := Lib.hid h1
  clear hown h1
  by_cases he : i = j
  · subst he
    have HR : Hid (w.ownsRow base 3 1 v (i + (n - i)) (xs.take i ++ xs.drop i)) := Lib.hid (by rw [List.take_append_drop, show i + (n - i) = n by omega]; exact HOWN.out)
    rcases hcase with ⟨rfl, rfl, rfl⟩ | ⟨g, c, cur, rfl, hbg, hblk, hnc, hcm, hlen, htake⟩
    · obtain rfl : i = 0 := by omega
      go_enter Try.func29, Try.ntmps29
      go_wp2
      go_ret
      exact ⟨_, rfl, HR.out, World.grownBy.refl w _, .inl rfl, fun _ => rfl⟩
    · clear hblk htake hlen
      unfold maxLen at hcm
      by_cases hic : n = i
      all_goals
        go_enter Try.func29, Try.ntmps29
        go_wp2
        go_ret
        exact ⟨_, rfl, HR.out, World.grownBy.refl w _, .inl rfl, fun _ => rfl⟩
  · have hij1 : ((i : Int) == (j : Int)) = false := by simp; omega
    rcases hcase with ⟨rfl, rfl, rfl⟩ | ⟨g, c, cur, rfl, hbg, hblk, hnc, hcm, hlen, htake⟩
    · omega
    · have HB := Lib.hid hblk
      have HT := Lib.hid htake
      have HLN := Lib.hid hlen
      have HXL := Lib.hid (own_len1 HOWN.out)
      clear hblk htake hlen
      obtain ⟨zs, hzs⟩ : ∃ zs, zs = xs.take i ++ xs.drop j := ⟨_, rfl⟩
      rw [← hzs]
      have HZS := Lib.hid hzs
      clear hzs
      have hcm' := hcm
      unfold maxLen at hcm'
      have hni : ¬ n = i := by omega
      by_cases hcj : c = j
      · obtain rfl : c = j := hcj
        obtain rfl : n = c := by omega
        have hcl := clr1 w.drew 0 g i cur HB.out (some ⟨g, i, none⟩) (n - i) (n - i) (fun _ => rfl) (by rw [HLN.out]; omega)
        have hB3 := Blk.set (w := w.drew) HB.out (splice cur i (zeros (.int .i64 0) (n - i)))
        have hG3 := grown_setRow w.drew g (splice cur i (zeros (.int .i64 0) (n - i))).toArray
        generalize w.drew.setRow g (splice cur i (zeros (.int .i64 0) (n - i))).toArray = W3 at hcl hB3 hG3
        have HB3 := Lib.hid hB3
        have HG3 : Hid (w.grownBy W3 (some g)) := Lib.hid ⟨hG3.os, hG3.tape, hG3.output, hG3.size, hG3.block⟩
        clear hB3 hG3
        have sic : i ≤ n := by omega
        go_enter Try.func29, Try.ntmps29
        go_wp2
        go_region
        go_wp2
        go_ret
        have hfin := own_mk1 (base := base) (n := i) (c := n) hbg HB3.out sic hcm (by rw [length_splice _ _ _ (by rw [zerosInt_length, HLN.out]; omega)]; exact HLN.out)
        have e1 : (splice cur i (zeros (.int .i64 0) (n - i))).take i = zs := by
          rw [HZS.out, List.drop_of_length_le (by rw [HXL.out]; exact Nat.le_refl _), List.append_nil, ← HT.out, List.take_take, splice, List.take_append_of_le_length (by rw [List.length_take, HLN.out]; omega), List.take_take]
          congr 1
          omega
        rw [e1] at hfin
        exact ⟨_, rfl, by rw [Nat.sub_self, Nat.add_zero]; exact hfin, HG3.out, .inl rfl, fun _ => rfl⟩
      · have hnp : i + (n - j) < n := by omega
        have hcn : ¬ c = i + (n - j) := by omega
        have htl : (xs.drop j).length = n - j := by rw [List.length_drop, HXL.out]
        have hB2 := Blk.set (w := w.drew) HB.out (splice cur i (xs.drop j))
        have hG2 := grown_setRow w.drew g (splice cur i (xs.drop j)).toArray
        have hl2 : (splice cur i (xs.drop j)).length = c := by rw [length_splice _ _ _ (by rw [htl, HLN.out]; omega)]; exact HLN.out
        have hsrc := (Row.own HOWN.out).tail1 (k := j) hj hcj
        simp only [Nat.zero_add] at hsrc
        have hap := app_room1 w.drew 22 g i c cur HB.out _ (n - j) (c - j) (xs.drop j) (Row.drew hsrc) (fun u hu => H1.out u (List.mem_of_mem_drop hu)) (by omega) HLN.out
        generalize w.drew.setRow g (splice cur i (xs.drop j)).toArray = W2 at hap hB2 hG2
        have hcl := clr1 W2 0 g (i + (n - j)) _ hB2 (some ⟨g, i + (n - j), none⟩) (n - (i + (n - j))) (c - (i + (n - j))) (fun _ => rfl) (by rw [hl2]; omega)
        have hB3 := hB2.set (splice (splice cur i (xs.drop j)) (i + (n - j)) (zeros (.int .i64 0) (n - (i + (n - j)))))
        have hG3 := grown_setRow W2 g (splice (splice cur i (xs.drop j)) (i + (n - j)) (zeros (.int .i64 0) (n - (i + (n - j))))).toArray
        generalize W2.setRow g (splice (splice cur i (xs.drop j)) (i + (n - j)) (zeros (.int .i64 0) (n - (i + (n - j))))).toArray = W3 at hcl hB3 hG3
        have HB3 := Lib.hid hB3
        have HG3 : Hid (w.grownBy W3 (some g)) := Lib.hid (grown_trans ⟨hG2.os, hG2.tape, hG2.output, hG2.size, hG2.block⟩ hG3)
        have HL2 := Lib.hid hl2
        have HTL := Lib.hid htl
        have HAP := Lib.hid hap
        clear hB2 hB3 hG2 hG3 hsrc hl2 htl hap
        have sic : i ≤ c := by omega
        go_enter Try.func29, Try.ntmps29
        go_wp2
        go_region_law (refine step_append_run rfl (.tmp 22) (.tmp 25) #[22, 22] rfl _ _ rfl rfl _ _ HAP.out ?_)
        go_wp2
        go_ret
        have hfin := own_mk1 (base := base) (n := i + (n - j)) (c := c) hbg HB3.out (by omega) hcm (by rw [length_splice _ _ _ (by rw [zerosInt_length, HL2.out]; omega)]; exact HL2.out)
        rw [splice_cut (by rw [HTL.out]) (by rw [HLN.out]; omega)] at hfin
        have htk : cur.take i = xs.take i := by
          rw [← HT.out, List.take_take]
          congr 1
          omega
        rw [htk, ← HZS.out] at hfin
        exact ⟨_, rfl, hfin, HG3.out, .inl rfl, fun _ => rfl⟩
end Go.Proofs.Ytaimljagflnfpaa
