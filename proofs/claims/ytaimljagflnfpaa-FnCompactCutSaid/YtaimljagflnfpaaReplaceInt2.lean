/- The contract of slices.Replace at int, a part ahead of others. No statement of the seat is proved here. -/
import Derived.Test.YtaimljagflnfpaaReplaceInt
namespace Go.Proofs.Ytaimljagflnfpaa
open Go.RowKit

theorem splice_drop {α : Type} {L ys : List α} {a j : Nat} (h : a + ys.length ≤ j) (hj : j ≤ L.length) : (splice L a ys).drop j = L.drop j := by
  rw [splice, ← List.append_assoc, List.drop_append, List.drop_of_length_le (by rw [List.length_append, List.length_take]; omega), List.nil_append, List.drop_drop]
  congr 1
  rw [List.length_append, List.length_take]
  omega

set_option maxRecDepth 100000 in
set_option maxHeartbeats 1600000 in
theorem replace_grow (w : World) (base : Nat) (g n c : Nat) (xs cur : List Value) (i j : Nat) (B : Option Addr) (m d : Nat) (ys : List Value) (hblk : Blk w g 3 cur) (hnc : n ≤ c) (hcm : c ≤ maxLen) (hlen : cur.length = c) (htake : cur.take n = xs) (hval : w.ownsRow 0 3 1 (.slice B m d) m ys)
    (h1 : ∀ u ∈ xs, u.oneCell' = true) (h2 : ∀ u ∈ ys, u.oneCell' = true) (hi : i < j) (hj : j < n) (_ : n ≤ 17592186043904) (hm : n + m ≤ 17592186043904) (hne : (Value.slice B m d).ownBlock ≠ some g) (hbase : base ≤ w.heap.size) (hroom : c < i + m + (n - j)) :
    Calls Try.prog 30 #[.slice (some ⟨g, 0, none⟩) n c, .int .i64 (i : Int), .int .i64 (j : Int), .slice B m d] w (EditedInt w base (.slice (some ⟨g, 0, none⟩) n c) (i + m + (n - j)) (xs.take i ++ ys ++ xs.drop j) (i + m ≤ j)) := by
  have HVAL := Lib.hid hval
  have H1 := Lib.hid h1
  have H2 := Lib.hid h2
  have HNE := Lib.hid hne
  have HB := Lib.hid hblk
  have HT := Lib.hid htake
  have HLN := Lib.hid hlen
  clear hval h1 h2 hne hblk htake hlen
  have HROW := Lib.hid (Row.own HVAL.out)
  have HYL := Lib.hid (own_len1 HVAL.out)
  have HXL : Hid (xs.length = n) := Lib.hid (by rw [← HT.out, List.length_take, HLN.out]; omega)
  have hij1 : ((i : Int) == (j : Int)) = false := by simp; omega
  have hjn1 : ((j : Int) == (n : Int)) = false := by simp; omega
  have hcm' := hcm
  unfold maxLen at hcm'
  have hic : ¬ c = i := by omega
  have hjc : ¬ c = j := by omega
  have HTK : Hid (cur.take i = xs.take i) := Lib.hid (by
    rw [← HT.out, List.take_take]
    congr 1
    omega)
  have HTL : Hid ((xs.drop j).length = n - j) := Lib.hid (by rw [List.length_drop, HXL.out])
  obtain ⟨zs, hzs⟩ : ∃ zs, zs = xs.take i ++ ys ++ xs.drop j := ⟨_, rfl⟩
  rw [← hzs]
  have HZS := Lib.hid hzs
  clear hzs
  have hsrc0 := HB.out.row1 (n := n - j) (c := c - j) (o := j) (by omega) (by omega) (by rw [HLN.out]; omega)
  rw [← List.drop_take] at hsrc0
  rw [show (cur.take n).drop j = xs.drop j by rw [HT.out]] at hsrc0
  have HS := Lib.hid hsrc0
  clear hsrc0
  go_enter Try.func30, Try.ntmps30
  go_wp2_with fail
  go_quiet (fail)
  have hE0 : Ext w (w.drewN nq) := (Ext.refl w).drewN _
  generalize w.drewN nq = W0 at hE0 ⊢
  have hz0 := hE0.size
  have HE0 := Lib.hid hE0
  clear hE0
  obtain ⟨c', cur', hrun, hc1, hc2, hcl, hct⟩ := app_zeros1 W0 22 (some ⟨g, 0, none⟩) i c (m + (n - j)) (i + m + (n - j)) _ ((HB.out.ext HE0.out).row1 (n := i) (c := c) (o := 0) (by omega) (by omega) (by rw [HLN.out]; omega)) (by omega) (by omega) hroom (by omega)
  rw [List.drop_zero, HTK.out] at hct
  have hB1 : Blk (W0.drew.alloc (.cells cur'.toArray 3)) W0.heap.size 3 cur' := heap_alloc_new W0.drew _
  have hE1 : Ext w (W0.drew.alloc (.cells cur'.toArray 3)) := HE0.out.drew.alloc _
  generalize W0.drew.alloc (.cells cur'.toArray 3) = W1 at hrun hB1 hE1
  have HRUN := Lib.hid hrun
  have HB1 := Lib.hid hB1
  have HE1 := Lib.hid hE1
  have HCL := Lib.hid hcl
  have HCT := Lib.hid hct
  clear hrun hB1 hE1 hcl hct
  have hc2' := hc2
  unfold maxLen at hc2'
  have hci : ¬ c' = i := by omega
  have hcim : ¬ c' = i + m := by omega
  have sx : m ≤ m + (n - j) := by omega
  go_wp2_with (with_reducible refine stand_at 67 ?_)
  refine Stand.mk (wpList_append_run rfl _ _ _ rfl _ _ rfl (show Value.int .i64 ((i : Int) + (m : Int) + ((n - j : Nat) : Int) - (i : Int)) = .int .i64 ((m + (n - j) : Nat) : Int) from by rw [show ((i : Int) + (m : Int) + ((n - j : Nat) : Int) - (i : Int)) = ((m + (n - j) : Nat) : Int) by omega]) _ _ HRUN.out ?_)
  go_wp2_with (with_reducible refine stand_at 72 ?_)
  have hcp1 := cp1 W1 3 W0.heap.size i cur' HB1.out (some ⟨W0.heap.size, i, none⟩) (i + m + (n - j) - i) (c' - i) B m d m ys (HROW.out.ext HE1.out) (by omega) (fun u hu => H2.out u (List.mem_of_mem_take hu)) (fun _ => rfl) (by rw [HCL.out]; omega)
  rw [List.take_of_length_le (by rw [HYL.out]; exact Nat.le_refl _)] at hcp1
  have hB2 := HB1.out.set (splice cur' i ys)
  have hE2 := HE1.out.grown (grown_setRow W1 W0.heap.size (splice cur' i ys).toArray) (fun k hk => by injection hk with hk; omega)
  generalize W1.setRow W0.heap.size (splice cur' i ys).toArray = W2 at hcp1 hB2 hE2
  refine Stand.mk (wpList_copy_run rfl _ _ _ rfl _ _ rfl rfl _ _ hcp1 ?_)
  have HB2 := Lib.hid hB2
  have HE2 := Lib.hid hE2
  clear hB2 hE2 hcp1
  go_wp2
  have hcp2 := cp1 W2.drew 3 W0.heap.size (i + m) _ HB2.out (some ⟨W0.heap.size, i + m, none⟩) (n - j) (c' - (i + m)) (some ⟨g, j, none⟩) (n - j) (c - j) (n - j) (xs.drop j) (HS.out.ext HE2.out.drew) (by omega) (fun u hu => H1.out u (List.mem_of_mem_drop (List.mem_of_mem_take hu))) (fun _ => rfl) (by rw [length_splice _ _ _ (by rw [HYL.out, HCL.out]; omega), HCL.out]; omega)
  rw [List.take_of_length_le (by rw [HTL.out]; exact Nat.le_refl _)] at hcp2
  have hB3 := Blk.set (w := W2.drew) HB2.out (splice (splice cur' i ys) (i + m) (xs.drop j))
  have hE3 := HE2.out.drew.grown (grown_setRow W2.drew W0.heap.size (splice (splice cur' i ys) (i + m) (xs.drop j)).toArray) (fun k hk => by injection hk with hk; omega)
  generalize W2.drew.setRow W0.heap.size (splice (splice cur' i ys) (i + m) (xs.drop j)).toArray = W3 at hcp2 hB3 hE3
  have HB3 := Lib.hid hB3
  have HE3 := Lib.hid hE3
  clear hB3 hE3
  have sw : IntKind.i64.wrap ((i : Int) + (m : Int)) = (i : Int) + (m : Int) := IntWalk.i64_in _ (by omega)
  have sn : (0 : Int) ≤ (i : Int) + (m : Int) := by omega
  have sl : (i : Int) + (m : Int) ≤ (i : Int) + (m : Int) + ((n - j : Nat) : Int) := by omega
  have sm : i + m ≤ i + m + (n - j) := by omega
  have st : ((i : Int) + (m : Int)).toNat = i + m := by omega
  have sjn : j ≤ n := Nat.le_of_lt hj
  go_region
  clear sw sn sl st hcp2
  go_wp2
  go_ret
  have hfin := own_mk1 (base := base) (n := i + m + (n - j)) (c := c') (by omega) HB3.out hc1 hc2 (by rw [length_splice _ _ _ (by rw [length_splice _ _ _ (by rw [HYL.out, HCL.out]; omega), HTL.out, HCL.out]; omega), length_splice _ _ _ (by rw [HYL.out, HCL.out]; omega)]; exact HCL.out)
  rw [splice_new (by rw [HCL.out]; omega) (by rw [HYL.out]) (by rw [HTL.out]) (by rw [HCL.out]; omega), HCT.out, ← HZS.out] at hfin
  exact ⟨_, rfl, hfin, grown_of_ext HE3.out _, .inr ⟨⟨W0.heap.size, rfl, hz0⟩, OldKept.mk' (HB.out.ext HE3.out)⟩, fun h => by omega⟩

set_option maxRecDepth 100000 in
set_option maxHeartbeats 1600000 in
theorem replace_fit (w : World) (base : Nat) (g n c : Nat) (xs cur : List Value) (i j : Nat) (B : Option Addr) (m d : Nat) (ys : List Value) (hbg : base ≤ g) (hblk : Blk w g 3 cur) (hnc : n ≤ c) (hcm : c ≤ maxLen) (hlen : cur.length = c) (htake : cur.take n = xs) (hval : w.ownsRow 0 3 1 (.slice B m d) m ys)
    (h1 : ∀ u ∈ xs, u.oneCell' = true) (h2 : ∀ u ∈ ys, u.oneCell' = true) (hi : i < j) (hj : j < n) (hn : n ≤ 17592186043904) (_ : n + m ≤ 17592186043904) (hne : (Value.slice B m d).ownBlock ≠ some g) (hroom : i + m + (n - j) ≤ c) (hfit : i + m ≤ j) :
    Calls Try.prog 30 #[.slice (some ⟨g, 0, none⟩) n c, .int .i64 (i : Int), .int .i64 (j : Int), .slice B m d] w (EditedInt w base (.slice (some ⟨g, 0, none⟩) n c) (i + m + (n - j)) (xs.take i ++ ys ++ xs.drop j) True) := by
  have HVAL := Lib.hid hval
  have H1 := Lib.hid h1
  have H2 := Lib.hid h2
  have HNE := Lib.hid hne
  have HB := Lib.hid hblk
  have HT := Lib.hid htake
  have HLN := Lib.hid hlen
  clear hval h1 h2 hne hblk htake hlen
  have HROW := Lib.hid (Row.own HVAL.out)
  have HYL := Lib.hid (own_len1 HVAL.out)
  have HXL : Hid (xs.length = n) := Lib.hid (by rw [← HT.out, List.length_take, HLN.out]; omega)
  have hij1 : ((i : Int) == (j : Int)) = false := by simp; omega
  have hjn1 : ((j : Int) == (n : Int)) = false := by simp; omega
  have hcm' := hcm
  unfold maxLen at hcm'
  have hic : ¬ c = i := by omega
  have hjc : ¬ c = j := by omega
  have HTK : Hid (cur.take i = xs.take i) := Lib.hid (by
    rw [← HT.out, List.take_take]
    congr 1
    omega)
  have HTL : Hid ((xs.drop j).length = n - j) := Lib.hid (by rw [List.length_drop, HXL.out])
  obtain ⟨zs, hzs⟩ : ∃ zs, zs = xs.take i ++ ys ++ xs.drop j := ⟨_, rfl⟩
  rw [← hzs]
  have HZS := Lib.hid hzs
  clear hzs
  have hsrc0 := HB.out.row1 (n := n - j) (c := c - j) (o := j) (by omega) (by omega) (by rw [HLN.out]; omega)
  rw [← List.drop_take] at hsrc0
  rw [show (cur.take n).drop j = xs.drop j by rw [HT.out]] at hsrc0
  have HS := Lib.hid hsrc0
  clear hsrc0
  have hl1 : (splice cur i ys).length = c := by rw [length_splice _ _ _ (by rw [HYL.out, HLN.out]; omega)]; exact HLN.out
  have HL1 := Lib.hid hl1
  have hl2 : (splice (splice cur i ys) (i + m) (xs.drop j)).length = c := by rw [length_splice _ _ _ (by rw [HTL.out, hl1]; omega)]; exact hl1
  have HL2 := Lib.hid hl2
  have ht2 : (splice (splice cur i ys) (i + m) (xs.drop j)).take (i + m + (n - j)) = zs := by
    rw [splice_new (by rw [HLN.out]; omega) (by rw [HYL.out]) (by rw [HTL.out]) (by rw [HLN.out]; omega), HTK.out, HZS.out]
  have HT2 := Lib.hid ht2
  have hdj : ((splice cur i ys).drop j).take (n - j) = xs.drop j := by
    rw [splice_drop (by rw [HYL.out]; exact hfit) (by rw [HLN.out]; omega), ← HT.out, List.drop_take]
  have HDJ := Lib.hid hdj
  clear hl1 hl2 ht2 hdj
  go_enter Try.func30, Try.ntmps30
  go_wp2_with fail
  go_quiet (fail)
  have hE0 : Ext w (w.drewN nq) := (Ext.refl w).drewN _
  generalize w.drewN nq = W0 at hE0 ⊢
  have hz0 := hE0.size
  have HE0 := Lib.hid hE0
  clear hE0
  have hcp1 := cp1 W0 3 g i cur (HB.out.ext HE0.out) (some ⟨g, i, none⟩) (i + m + (n - j) - i) (c - i) B m d m ys (HROW.out.ext HE0.out) (by omega) (fun u hu => H2.out u (List.mem_of_mem_take hu)) (fun _ => rfl) (by rw [HLN.out]; omega)
  rw [List.take_of_length_le (by rw [HYL.out]; exact Nat.le_refl _)] at hcp1
  have hB2 := (HB.out.ext HE0.out).set (splice cur i ys)
  have hG2 := grown_trans (grown_of_ext HE0.out (some g)) (grown_setRow W0 g (splice cur i ys).toArray)
  generalize W0.setRow g (splice cur i ys).toArray = W2 at hcp1 hB2 hG2
  have HB2 := Lib.hid hB2
  have HG2 := Lib.hid hG2
  have HCP1 := Lib.hid hcp1
  clear hB2 hG2 hcp1
  have hci : ¬ c = i + m := by omega
  have hle : i + m ≤ j := hfit
  have hle' : (i : Int) + (m : Int) ≤ (j : Int) := by omega
  go_wp2_with (with_reducible refine stand_at 97 ?_)
  refine Stand.mk (wpList_copy_run rfl _ _ _ rfl _ _ rfl rfl _ _ HCP1.out ?_)
  go_wp2
  have hsrc := HB2.out.row1 (n := n - j) (c := c - j) (o := j) (by omega) (by omega) (by rw [HL1.out]; omega)
  rw [HDJ.out] at hsrc
  have hcp2 := cp1 W2.drew 3 g (i + m) _ HB2.out (some ⟨g, i + m, none⟩) (n - j) (c - (i + m)) (some ⟨g, j, none⟩) (n - j) (c - j) (n - j) (xs.drop j) hsrc (by omega) (fun u hu => H1.out u (List.mem_of_mem_drop (List.mem_of_mem_take hu))) (fun _ => rfl) (by rw [HL1.out]; omega)
  rw [List.take_of_length_le (by rw [HTL.out]; exact Nat.le_refl _)] at hcp2
  have hB3 := Blk.set (w := W2.drew) HB2.out (splice (splice cur i ys) (i + m) (xs.drop j))
  have hG3 : w.grownBy (W2.drew.setRow g (splice (splice cur i ys) (i + m) (xs.drop j)).toArray) (some g) := grown_trans (grown_drew HG2.out) (grown_setRow W2.drew g (splice (splice cur i ys) (i + m) (xs.drop j)).toArray)
  generalize W2.drew.setRow g (splice (splice cur i ys) (i + m) (xs.drop j)).toArray = W3 at hcp2 hB3 hG3
  have HB3 := Lib.hid hB3
  have HG3 := Lib.hid hG3
  clear hB3 hG3 hsrc
  have sw : IntKind.i64.wrap ((i : Int) + (m : Int)) = (i : Int) + (m : Int) := IntWalk.i64_in _ (by omega)
  have sn : (0 : Int) ≤ (i : Int) + (m : Int) := by omega
  have sl : (i : Int) + (m : Int) ≤ (i : Int) + (m : Int) + ((n - j : Nat) : Int) := by omega
  have sm : i + m ≤ i + m + (n - j) := by omega
  have st : ((i : Int) + (m : Int)).toNat = i + m := by omega
  have sjn : j ≤ n := Nat.le_of_lt hj
  go_region
  clear sw sn sl sm st hcp2 sjn
  have htn : i + m + (n - j) ≤ n := by omega
  have htn' : (i : Int) + (m : Int) + ((n - j : Nat) : Int) ≤ (n : Int) := by omega
  have sq : ((i : Int) + (m : Int) + ((n - j : Nat) : Int)).toNat = i + m + (n - j) := by omega
  have HB4' := HB3.out.set (splice (splice (splice cur i ys) (i + m) (xs.drop j)) (i + m + (n - j)) (zeros (.int .i64 0) (n - (i + m + (n - j)))))
  have HG4' := grown_trans HG3.out (grown_setRow W3 g (splice (splice (splice cur i ys) (i + m) (xs.drop j)) (i + m + (n - j)) (zeros (.int .i64 0) (n - (i + m + (n - j))))).toArray)
  have HB4 := Lib.hid HB4'
  have HG4 := Lib.hid HG4'
  clear HB4' HG4'
  by_cases hct : c = i + m + (n - j)
  · have hcl := clr1 W3 0 g (i + m + (n - j)) _ HB3.out (some ⟨g, 0, none⟩) (n - (i + m + (n - j))) (c - (i + m + (n - j))) (fun h => by omega) (by rw [HL2.out]; omega)
    have hct2 : (c = i + m + (n - j)) = True := by simpa using hct
    have HCT := Lib.hid hct
    clear hct
    go_wp2
    go_ret
    have hfin := own_mk1 (base := base) (n := i + m + (n - j)) (c := c) hbg HB4.out hroom hcm (by rw [length_splice _ _ _ (by rw [zerosInt_length, HL2.out]; omega)]; exact HL2.out)
    rw [take_splice _ _ _ (by rw [HL2.out]; exact hroom), HT2.out] at hfin
    exact ⟨_, rfl, hfin, HG4.out, .inl rfl, fun _ => rfl⟩
  · have hcl := clr1 W3 0 g (i + m + (n - j)) _ HB3.out (some ⟨g, i + m + (n - j), none⟩) (n - (i + m + (n - j))) (c - (i + m + (n - j))) (fun _ => rfl) (by rw [HL2.out]; omega)
    go_wp2
    go_ret
    have hfin := own_mk1 (base := base) (n := i + m + (n - j)) (c := c) hbg HB4.out hroom hcm (by rw [length_splice _ _ _ (by rw [zerosInt_length, HL2.out]; omega)]; exact HL2.out)
    rw [take_splice _ _ _ (by rw [HL2.out]; exact hroom), HT2.out] at hfin
    exact ⟨_, rfl, hfin, HG4.out, .inl rfl, fun _ => rfl⟩

set_option maxRecDepth 100000 in
set_option maxHeartbeats 1600000 in
theorem replace_room (w : World) (base : Nat) (g n c : Nat) (xs cur : List Value) (i j : Nat) (B : Option Addr) (m d : Nat) (ys : List Value) (hbg : base ≤ g) (hblk : Blk w g 3 cur) (hnc : n ≤ c) (hcm : c ≤ maxLen) (hlen : cur.length = c) (htake : cur.take n = xs) (hval : w.ownsRow 0 3 1 (.slice B m d) m ys)
    (h1 : ∀ u ∈ xs, u.oneCell' = true) (h2 : ∀ u ∈ ys, u.oneCell' = true) (hi : i < j) (hj : j < n) (hn : n ≤ 17592186043904) (hm : n + m ≤ 17592186043904) (hne : (Value.slice B m d).ownBlock ≠ some g) (hroom : i + m + (n - j) ≤ c) (hfit : j < i + m) :
    Calls Try.prog 30 #[.slice (some ⟨g, 0, none⟩) n c, .int .i64 (i : Int), .int .i64 (j : Int), .slice B m d] w (EditedInt w base (.slice (some ⟨g, 0, none⟩) n c) (i + m + (n - j)) (xs.take i ++ ys ++ xs.drop j) False) := by
  have HVAL := Lib.hid hval
  have H1 := Lib.hid h1
  have H2 := Lib.hid h2
  have HNE := Lib.hid hne
  have HB := Lib.hid hblk
  have HT := Lib.hid htake
  have HLN := Lib.hid hlen
  clear hval h1 h2 hne hblk htake hlen
  have HROW := Lib.hid (Row.own HVAL.out)
  have HYL := Lib.hid (own_len1 HVAL.out)
  have HXL : Hid (xs.length = n) := Lib.hid (by rw [← HT.out, List.length_take, HLN.out]; omega)
  have hij1 : ((i : Int) == (j : Int)) = false := by simp; omega
  have hjn1 : ((j : Int) == (n : Int)) = false := by simp; omega
  have hcm' := hcm
  unfold maxLen at hcm'
  have hic : ¬ c = i := by omega
  have hjc : ¬ c = j := by omega
  have HTK : Hid (cur.take i = xs.take i) := Lib.hid (by
    rw [← HT.out, List.take_take]
    congr 1
    omega)
  have HTL : Hid ((xs.drop j).length = n - j) := Lib.hid (by rw [List.length_drop, HXL.out])
  obtain ⟨zs, hzs⟩ : ∃ zs, zs = xs.take i ++ ys ++ xs.drop j := ⟨_, rfl⟩
  rw [← hzs]
  have HZS := Lib.hid hzs
  clear hzs
  have hsrc0 := HB.out.row1 (n := n - j) (c := c - j) (o := j) (by omega) (by omega) (by rw [HLN.out]; omega)
  rw [← List.drop_take] at hsrc0
  rw [show (cur.take n).drop j = xs.drop j by rw [HT.out]] at hsrc0
  have HS := Lib.hid hsrc0
  clear hsrc0
  have hm0 : 0 < m := by omega
  rcases own_cases1 HVAL.out with ⟨_, h0, _⟩ | ⟨b, vc, vcur, hv, _, hvb, hvn, hvm, hvl, hvt⟩
  · omega
  injection hv with hv1 hv2 hv3
  subst hv1 hv3
  have hgb : g ≠ b := fun h => HNE.out (by rw [h]; rfl)
  have HVB := Lib.hid hvb
  have HVL := Lib.hid hvl
  clear hv2 hvb hvt hvl hvm
  have hl1 : (splice cur (i + m) (xs.drop j)).length = c := by rw [length_splice _ _ _ (by rw [HTL.out, HLN.out]; omega)]; exact HLN.out
  have HL1 := Lib.hid hl1
  have hl2 : (splice (splice cur (i + m) (xs.drop j)) i ys).length = c := by rw [length_splice _ _ _ (by rw [HYL.out, hl1]; omega)]; exact hl1
  have HL2 := Lib.hid hl2
  have ht2 : (splice (splice cur (i + m) (xs.drop j)) i ys).take (i + m + (n - j)) = zs := by
    rw [splice_up (by rw [HYL.out]) (by rw [HTL.out]) (by rw [HLN.out]; omega), HTK.out, HZS.out]
  have HT2 := Lib.hid ht2
  clear hl1 hl2 ht2
  go_enter Try.func30, Try.ntmps30
  go_wp2_with fail
  go_quiet (fail)
  have hE0 : Ext w (w.drewN nq) := (Ext.refl w).drewN _
  generalize w.drewN nq = W0 at hE0 ⊢
  have hz0 := hE0.size
  have HE0 := Lib.hid hE0
  clear hE0
  have hov := fun lb cb => overlapsInt' W0 b g (i + m) m d lb cb vcur cur (HVB.out.ext HE0.out) (HB.out.ext HE0.out) (Ne.symm hgb) (fun h => by have := HVL.out; rw [h] at this; simp at this; omega)
  have hci : ¬ c = i + m := by omega
  have hle : ¬ (i + m ≤ j) := by omega
  have hle' : ¬ ((i : Int) + (m : Int) ≤ (j : Int)) := by omega
  go_wp2
  have hcp1 := cp1 W0.drew 3 g (i + m) cur (HB.out.ext HE0.out.drew) (some ⟨g, i + m, none⟩) (n - j) (c - (i + m)) (some ⟨g, j, none⟩) (n - j) (c - j) (n - j) (xs.drop j) (HS.out.ext HE0.out.drew) (by omega) (fun u hu => H1.out u (List.mem_of_mem_drop (List.mem_of_mem_take hu))) (fun _ => rfl) (by rw [HLN.out]; omega)
  rw [List.take_of_length_le (by rw [HTL.out]; exact Nat.le_refl _)] at hcp1
  have hB2 := Blk.set (w := W0.drew) (HB.out.ext HE0.out.drew) (splice cur (i + m) (xs.drop j))
  have hG2 : w.grownBy (W0.drew.setRow g (splice cur (i + m) (xs.drop j)).toArray) (some g) := grown_trans (grown_drew (grown_of_ext HE0.out (some g))) (grown_setRow W0.drew g (splice cur (i + m) (xs.drop j)).toArray)
  generalize W0.drew.setRow g (splice cur (i + m) (xs.drop j)).toArray = W2 at hcp1 hB2 hG2
  have HB2 := Lib.hid hB2
  have HG2 := Lib.hid hG2
  clear hB2 hG2
  have sw : IntKind.i64.wrap ((i : Int) + (m : Int)) = (i : Int) + (m : Int) := IntWalk.i64_in _ (by omega)
  have sn : (0 : Int) ≤ (i : Int) + (m : Int) := by omega
  have sl : (i : Int) + (m : Int) ≤ (i : Int) + (m : Int) + ((n - j : Nat) : Int) := by omega
  have sm : i + m ≤ i + m + (n - j) := by omega
  have st : ((i : Int) + (m : Int)).toNat = i + m := by omega
  have sjn : j ≤ n := Nat.le_of_lt hj
  go_region
  clear sw sn sl sm st sjn hcp1
  have hvr : Row W2 1 (some ⟨b, 0, none⟩) m d ys := HROW.out.grownBy HG2.out (fun h => hgb (by injection h with h; exact h.symm))
  have hcp2 := cp1 W2 3 g i _ HB2.out (some ⟨g, i, none⟩) (i + m + (n - j) - i) (c - i) (some ⟨b, 0, none⟩) m d m ys hvr (by omega) (fun u hu => H2.out u (List.mem_of_mem_take hu)) (fun _ => rfl) (by rw [HL1.out]; omega)
  rw [List.take_of_length_le (by rw [HYL.out]; exact Nat.le_refl _)] at hcp2
  have hB3 := HB2.out.set (splice (splice cur (i + m) (xs.drop j)) i ys)
  have hG3 := grown_trans HG2.out (grown_setRow W2 g (splice (splice cur (i + m) (xs.drop j)) i ys).toArray)
  generalize W2.setRow g (splice (splice cur (i + m) (xs.drop j)) i ys).toArray = W3 at hcp2 hB3 hG3
  have HB3 := Lib.hid hB3
  have HG3 := Lib.hid hG3
  have HCP2 := Lib.hid hcp2
  clear hB3 hG3 hvr hcp2
  go_wp2_with (with_reducible refine stand_at 135 ?_)
  refine Stand.mk (wpList_copy_run rfl _ _ _ rfl _ _ rfl rfl _ _ HCP2.out ?_)
  go_wp2
  go_ret
  have hfin := own_mk1 (base := base) (n := i + m + (n - j)) (c := c) hbg HB3.out hroom hcm HL2.out
  rw [HT2.out] at hfin
  exact ⟨_, rfl, hfin, HG3.out, .inl rfl, fun h => h.elim⟩

theorem EditedInt.weak {w w' : World} {base n n' : Nat} {v : Value} {xs xs' : List Value} {p q : Prop} {e : Ending} (h : EditedInt w base v n xs p e w') (hn : n = n') (hx : xs = xs') (hp : q → p) : EditedInt w base v n' xs' q e w' := by
  subst hn hx
  obtain ⟨v', h1, h2, h3, h4, h5⟩ := h
  exact ⟨v', h1, h2, h3, h4, fun h => h5 (hp h)⟩

theorem replaceInt_ok (w : World) (base : Nat) (v : Value) (n : Nat) (xs : List Value) (i j : Nat) (B : Option Addr) (m d : Nat) (ys : List Value) (hown : w.ownsRow base 3 1 v n xs) (hval : w.ownsRow 0 3 1 (.slice B m d) m ys)
    (h1 : ∀ u ∈ xs, u.oneCell' = true) (h2 : ∀ u ∈ ys, u.oneCell' = true) (hi : i ≤ j) (hj : j ≤ n) (hn : n ≤ 17592186043904) (hm : n + m ≤ 17592186043904) (hne : ∀ g, (Value.slice B m d).ownBlock = some g → v.ownBlock ≠ some g) (hbase : base ≤ w.heap.size) :
    Calls Try.prog 30 #[v, .int .i64 (i : Int), .int .i64 (j : Int), .slice B m d] w (EditedInt w base v (i + m + (n - j)) (xs.take i ++ ys ++ xs.drop j) (i + m ≤ j)) := by
  have hxl := own_len1 hown
  have hcase := own_cases1 hown
  by_cases hij : i = j
  · subst hij
    refine (replace_eq w base v n xs i B m d ys hown hval h1 h2 hj hn hm hne hbase).mono fun e w' h => h.weak (by omega) rfl fun h0 => ?_
    rcases hcase with ⟨rfl, rfl, rfl⟩ | ⟨g, c, cur, rfl, hbg, hblk, hnc, hcm, hlen, htake⟩
    · rw [capOf_slice]; omega
    · rw [capOf_slice]; omega
  · by_cases hjn : j = n
    · subst hjn
      refine (replace_end w base v j xs i B m d ys hown hval h2 (by omega) hn hm hbase).mono fun e w' h => h.weak (by omega) ?_ id
      rw [List.drop_of_length_le (by omega), List.append_nil]
    · rcases hcase with ⟨rfl, rfl, rfl⟩ | ⟨g, c, cur, rfl, hbg, hblk, hnc, hcm, hlen, htake⟩
      · omega
      · have hne' : (Value.slice B m d).ownBlock ≠ some g := fun h => hne g h rfl
        by_cases hroom : c < i + m + (n - j)
        · exact replace_grow w base g n c xs cur i j B m d ys hblk hnc hcm hlen htake hval h1 h2 (by omega) (by omega) hn hm hne' hbase hroom
        · by_cases hfit : i + m ≤ j
          · exact (replace_fit w base g n c xs cur i j B m d ys hbg hblk hnc hcm hlen htake hval h1 h2 (by omega) (by omega) hn hm hne' (by omega) hfit).mono fun e w' h => h.weak rfl rfl fun _ => trivial
          · exact (replace_room w base g n c xs cur i j B m d ys hbg hblk hnc hcm hlen htake hval h1 h2 (by omega) (by omega) hn hm hne' (by omega) (by omega)).mono fun e w' h => h.weak rfl rfl fun h0 => absurd h0 (by omega)
end Go.Proofs.Ytaimljagflnfpaa
