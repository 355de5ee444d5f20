/- The contract of impl.kept, kind by kind: an item is popped, removed or changed. No statement of the seat is proved here. -/
import Derived.Test.YtefeedpeiiaanaaKept2
namespace Go.Proofs.Ytefeedpeiiaanaa
open Go.RowKit

theorem edited_blk {w w1 : World} {base n : Nat} {v : Value} {xs : List Value} {e : Ending} (h : EditedItem w base v n xs e w1) {g : Nat} {o : Obj} (hb : w.heap[g]? = some o) (hne : v.ownBlock ≠ some g) : w1.heap[g]? = some o := by
  obtain ⟨_, _, _, hg, _⟩ := h
  exact blk_grown hg hb hne

set_option maxRecDepth 100000 in
set_option maxHeartbeats 1600000 in
theorem kept_remove (w : World) (base : Nat) (v : Value) (n : Nat) (S : List (Int × Int)) (x1 x2 y : Int) (hown : w.ownsRow base 28 2 v n (its S)) (ho : Ord S) (hs : n ≤ 1099511620000) (hm : (x1, x2) ∈ S) :
    Calls Try.prog 25 #[v, .agg #[.int .i64 2, .int .i64 x1, .int .i64 x2, .int .i64 y]] w (KPost w base v (S.erase (x1, x2)) (x1, x2) true) := by
  have HN := Lib.hid (its_len_own hown)
  have hE : Ext w ((w.alloc (.cells #[.int .i64 2, .int .i64 x1, .int .i64 x2, .int .i64 y] 30)).alloc (.cells #[.int .i64 0, .int .i64 0] 28)) := ((Ext.refl w).alloc _).alloc _
  have hb0 : ((w.alloc (.cells #[.int .i64 2, .int .i64 x1, .int .i64 x2, .int .i64 y] 30)).alloc (.cells #[.int .i64 0, .int .i64 0] 28)).heap[w.heap.size]? = some (.cells #[.int .i64 2, .int .i64 x1, .int .i64 x2, .int .i64 y] 30) := blk_ext ((Ext.refl _).alloc _) (heap_alloc_new w _)
  have hb1 : ((w.alloc (.cells #[.int .i64 2, .int .i64 x1, .int .i64 x2, .int .i64 y] 30)).alloc (.cells #[.int .i64 0, .int .i64 0] 28)).heap[w.heap.size + 1]? = some (.cells #[.int .i64 0, .int .i64 0] 28) := by
    have := heap_alloc_new (w.alloc (.cells #[.int .i64 2, .int .i64 x1, .int .i64 x2, .int .i64 y] 30)) (.cells #[.int .i64 0, .int .i64 0] 28)
    simpa using this
  have HP := Lib.hid (take_fr w ((w.alloc (.cells #[.int .i64 2, .int .i64 x1, .int .i64 x2, .int .i64 y] 30)).alloc (.cells #[.int .i64 0, .int .i64 0] 28)) base v n S x1 x2 hE hown ho hs hm)
  have HLE : Hid ((S.erase (x1, x2)).length = n - 1) := Lib.hid (by rw [List.length_erase_of_mem hm, HN.out])
  have HB0 := Lib.hid hb0
  have HB1 := Lib.hid hb1
  clear hown ho hm hE hb0 hb1
  go_enter Try.func25, Try.ntmps25
  go_wp2_with fail
  refine HP.out.mono ?_
  rintro e w1 ⟨v', rfl, HED, HK, HF⟩
  have k0 := HK.out _ _ (Nat.le_refl _) HB0.out
  have k1 := HK.out _ _ (Nat.le_succ _) HB1.out
  have c0 : w1.cell? ⟨w.heap.size, 0, none⟩ = some (.int .i64 2) := (by simp [World.cell?, k0])
  have c1 : w1.cell? ⟨w.heap.size, 1, none⟩ = some (.int .i64 x1) := (by simp [World.cell?, k0])
  have c2 : w1.cell? ⟨w.heap.size, 1 + 1, none⟩ = some (.int .i64 x2) := (by simp [World.cell?, k0])
  have d0 : w1.cell? ⟨w.heap.size + 1, 0, none⟩ = some (.int .i64 0) := (by simp [World.cell?, k1])
  have d1 : w1.cell? ⟨w.heap.size + 1, 1, none⟩ = some (.int .i64 0) := (by simp [World.cell?, k1])
  have f0 : w1.frozen? ⟨w.heap.size + 1, 0, none⟩ = false := (by simp [World.frozen?, k1])
  have f1 : w1.frozen? ⟨w.heap.size + 1, 1, none⟩ = false := (by simp [World.frozen?, k1])
  clear k0 k1
  go_wp2
  go_region
  all_goals
    go_wp2
    refine bodyPost_ret (v := .tuple #[v', .agg #[.int .i64 x1, .int .i64 x2], .bool true]) (by simp [results, Try.results25, go_sem, d0, d1]) rfl ⟨v', rfl, ?_⟩
    rw [HLE.out]
    have hne := HF.out (w.heap.size + 1) (by omega) (by simp)
    first
    | exact (HED.out.drew.setCell (by simp) hne _).setCell (by simp) hne _
    | exact ((HED.out.setCell (by simp) hne _).setCell (by simp) hne _).drew

set_option maxRecDepth 100000 in
set_option maxHeartbeats 1600000 in
theorem kept_fix (w : World) (base : Nat) (v : Value) (n : Nat) (S : List (Int × Int)) (x1 x2 y : Int) (hown : w.ownsRow base 28 2 v n (its S)) (ho : Ord S) (hs : n ≤ 1099511620000) (hm : (x1, x2) ∈ S) (hbase : base ≤ w.heap.size) :
    Calls Try.prog 25 #[v, .agg #[.int .i64 3, .int .i64 x1, .int .i64 x2, .int .i64 y]] w (KPost w base v (insP (y, x2) (S.erase (x1, x2))) (y, x2) true) := by
  have HN := Lib.hid (its_len_own hown)
  have hE : Ext w ((w.alloc (.cells #[.int .i64 3, .int .i64 x1, .int .i64 x2, .int .i64 y] 30)).alloc (.cells #[.int .i64 0, .int .i64 0] 28)) := ((Ext.refl w).alloc _).alloc _
  have hb0 : ((w.alloc (.cells #[.int .i64 3, .int .i64 x1, .int .i64 x2, .int .i64 y] 30)).alloc (.cells #[.int .i64 0, .int .i64 0] 28)).heap[w.heap.size]? = some (.cells #[.int .i64 3, .int .i64 x1, .int .i64 x2, .int .i64 y] 30) := blk_ext ((Ext.refl _).alloc _) (heap_alloc_new w _)
  have hb1 : ((w.alloc (.cells #[.int .i64 3, .int .i64 x1, .int .i64 x2, .int .i64 y] 30)).alloc (.cells #[.int .i64 0, .int .i64 0] 28)).heap[w.heap.size + 1]? = some (.cells #[.int .i64 0, .int .i64 0] 28) := by
    have := heap_alloc_new (w.alloc (.cells #[.int .i64 3, .int .i64 x1, .int .i64 x2, .int .i64 y] 30)) (.cells #[.int .i64 0, .int .i64 0] 28)
    simpa using this
  have HP := Lib.hid (take_fr w ((w.alloc (.cells #[.int .i64 3, .int .i64 x1, .int .i64 x2, .int .i64 y] 30)).alloc (.cells #[.int .i64 0, .int .i64 0] 28)) base v n S x1 x2 hE hown ho hs hm)
  have HLE : Hid ((S.erase (x1, x2)).length = n - 1) := Lib.hid (by rw [List.length_erase_of_mem hm, HN.out])
  have HOE : Hid (Ord (S.erase (x1, x2))) := Lib.hid (List.Pairwise.sublist List.erase_sublist ho)
  have HB0 := Lib.hid hb0
  have HB1 := Lib.hid hb1
  have hsz := hE.size
  clear hown ho hm hE hb0 hb1
  go_enter Try.func25, Try.ntmps25
  go_wp2_with fail
  refine HP.out.mono ?_
  rintro e w1 ⟨v', rfl, HED, HK, HF⟩
  have k0 := HK.out _ _ (Nat.le_refl _) HB0.out
  have k1 := HK.out _ _ (Nat.le_succ _) HB1.out
  have c0 : w1.cell? ⟨w.heap.size, 0, none⟩ = some (.int .i64 3) := (by simp [World.cell?, k0])
  have c1 : w1.cell? ⟨w.heap.size, 1, none⟩ = some (.int .i64 x1) := (by simp [World.cell?, k0])
  have c2 : w1.cell? ⟨w.heap.size, 1 + 1, none⟩ = some (.int .i64 x2) := (by simp [World.cell?, k0])
  have c3 : w1.cell? ⟨w.heap.size, 3, none⟩ = some (.int .i64 y) := (by simp [World.cell?, k0])
  have HK1 := Lib.hid k1
  clear k0 k1
  have hz1 : w.heap.size + 1 < w1.heap.size := blk_lt HK1.out
  obtain ⟨v1, q0, hown1, hg1, _⟩ := HED.out
  injection q0 with q0
  subst q0
  have HP2 := Lib.hid (put_fr w1 (w1.alloc (.cells #[.int .i64 y, .int .i64 x2] 28)).drew base v' (n - 1) (S.erase (x1, x2)) y x2 ((Ext.refl _).alloc _).drew hown1 HOE.out (by omega) (by omega))
  have HOFF : Hid (v'.ownBlock ≠ some (w.heap.size + 1)) := HF.out (w.heap.size + 1) (by omega) (by simp)
  clear hown1 hg1
  go_wp2
  go_region_with ((go_at_call 24; refine HP2.out.mono ?_; rintro e w2 ⟨v2, rfl, HED2, HK2, HF2⟩; have q1 := HK2.out _ _ (Nat.le_refl _) (heap_alloc_new w1 (.cells #[.int .i64 y, .int .i64 x2] 28)); have k1 := edited_blk HED2.out HK1.out HOFF.out; have e0 : w2.cell? ⟨w1.heap.size, 0, none⟩ = some (.int .i64 y) := (by simp [World.cell?, q1]); have e1 : w2.cell? ⟨w1.heap.size, 1, none⟩ = some (.int .i64 x2) := (by simp [World.cell?, q1]); have d0 : w2.cell? ⟨w.heap.size + 1, 0, none⟩ = some (.int .i64 0) := (by simp [World.cell?, k1]); have d1 : w2.cell? ⟨w.heap.size + 1, 1, none⟩ = some (.int .i64 0) := (by simp [World.cell?, k1]); have f0 : w2.frozen? ⟨w.heap.size + 1, 0, none⟩ = false := (by simp [World.frozen?, k1]); have f1 : w2.frozen? ⟨w.heap.size + 1, 1, none⟩ = false := (by simp [World.frozen?, k1]); have HK2' := Lib.hid k1; clear q1 k1))
  all_goals
    go_wp2
    refine bodyPost_ret (v := .tuple #[v2, .agg #[.int .i64 y, .int .i64 x2], .bool true]) (by simp [results, Try.results25, go_sem, d0, d1]) rfl ⟨v2, rfl, ?_⟩
    rw [insP_length, HLE.out]
    have hne : v2.ownBlock ≠ some (w.heap.size + 1) := by
      obtain ⟨v3, z0, _, _, z3⟩ := HED2.out
      injection z0 with z0
      subst z0
      rcases z3 with h | ⟨g, h, hg⟩
      · rw [h]; exact HOFF.out
      · rw [h]; intro hh; injection hh with hh; omega
    exact ((HED.out.trans HED2.out).setCell (by simp) hne _).setCell (by simp) hne _

set_option maxRecDepth 100000 in
set_option maxHeartbeats 1600000 in
theorem kept_pop (w : World) (base : Nat) (v : Value) (n : Nat) (S : List (Int × Int)) (x1 x2 y : Int) (a1 a2 : Int) (hown : w.ownsRow base 28 2 v n (its S)) (hs : n ≤ 1099511620000) (ha : S[0]? = some (a1, a2)) (hn : 0 < n) :
    Calls Try.prog 25 #[v, .agg #[.int .i64 1, .int .i64 x1, .int .i64 x2, .int .i64 y]] w (KPost w base v S.tail (a1, a2) true) := by
  have HN := Lib.hid (its_len_own hown)
  have hE : Ext w ((w.alloc (.cells #[.int .i64 1, .int .i64 x1, .int .i64 x2, .int .i64 y] 30)).alloc (.cells #[.int .i64 0, .int .i64 0] 28)) := ((Ext.refl w).alloc _).alloc _
  have hb0 : ((w.alloc (.cells #[.int .i64 1, .int .i64 x1, .int .i64 x2, .int .i64 y] 30)).alloc (.cells #[.int .i64 0, .int .i64 0] 28)).heap[w.heap.size]? = some (.cells #[.int .i64 1, .int .i64 x1, .int .i64 x2, .int .i64 y] 30) := blk_ext ((Ext.refl _).alloc _) (heap_alloc_new w _)
  have hb1 : ((w.alloc (.cells #[.int .i64 1, .int .i64 x1, .int .i64 x2, .int .i64 y] 30)).alloc (.cells #[.int .i64 0, .int .i64 0] 28)).heap[w.heap.size + 1]? = some (.cells #[.int .i64 0, .int .i64 0] 28) := by
    have := heap_alloc_new (w.alloc (.cells #[.int .i64 1, .int .i64 x1, .int .i64 x2, .int .i64 y] 30)) (.cells #[.int .i64 0, .int .i64 0] 28)
    simpa using this
  rcases own_cases hown with ⟨_, h0, _⟩ | ⟨g, c, cur, rfl, _, _, hnc, hcm, _, _⟩
  · omega
  unfold maxLen at hcm
  have hrow := Row.own (own_ext hown hE)
  obtain ⟨b, o, z1, z2, hA, hz, hc1, hc2⟩ := hrow.item_at (k := 0) hn
  injection hA with hA
  injection hA with hA1 hA2
  subst hA1 hA2
  have hzz := hz.out
  rw [ha] at hzz
  injection hzz with hzz
  injection hzz with hz1 hz2
  subst hz1 hz2
  simp only [Nat.zero_mul, Nat.add_zero, Nat.zero_add] at hc1 hc2
  have HP := Lib.hid (delete_fr w (((w.alloc (.cells #[.int .i64 1, .int .i64 x1, .int .i64 x2, .int .i64 y] 30)).alloc (.cells #[.int .i64 0, .int .i64 0] 28)).alloc (.cells #[.int .i64 a1, .int .i64 a2] 28)).drew base (.slice (some ⟨g, 0, none⟩) n c) n S (hE.alloc _).drew hown hs hn)
  have HLE : Hid (S.tail.length = n - 1) := Lib.hid (by rw [List.length_tail, HN.out])
  have HB1 := Lib.hid (blk_ext ((Ext.refl _).alloc (.cells #[.int .i64 a1, .int .i64 a2] 28)) hb1)
  have HQ : Hid ((((w.alloc (.cells #[.int .i64 1, .int .i64 x1, .int .i64 x2, .int .i64 y] 30)).alloc (.cells #[.int .i64 0, .int .i64 0] 28)).alloc (.cells #[.int .i64 a1, .int .i64 a2] 28)).heap[w.heap.size + 1 + 1]? = some (.cells #[.int .i64 a1, .int .i64 a2] 28)) := Lib.hid (by
    have := heap_alloc_new ((w.alloc (.cells #[.int .i64 1, .int .i64 x1, .int .i64 x2, .int .i64 y] 30)).alloc (.cells #[.int .i64 0, .int .i64 0] 28)) (.cells #[.int .i64 a1, .int .i64 a2] 28)
    simpa using this)
  clear hown ha hE hb0 hb1 hrow hz
  go_enter Try.func25, Try.ntmps25
  go_wp2
  go_region_with ((go_at_call 37; refine HP.out.mono ?_; rintro e w1 ⟨v', rfl, HED, HK, HF⟩; have k1 := HK.out _ _ (Nat.le_succ _) HB1.out; have q1 := HK.out _ _ (by omega) HQ.out; have e0 : w1.cell? ⟨w.heap.size + 1 + 1, 0, none⟩ = some (.int .i64 a1) := (by simp [World.cell?, q1]); have e1 : w1.cell? ⟨w.heap.size + 1 + 1, 1, none⟩ = some (.int .i64 a2) := (by simp [World.cell?, q1]); have d0 : w1.cell? ⟨w.heap.size + 1, 0, none⟩ = some (.int .i64 0) := (by simp [World.cell?, k1]); have d1 : w1.cell? ⟨w.heap.size + 1, 1, none⟩ = some (.int .i64 0) := (by simp [World.cell?, k1]); have f0 : w1.frozen? ⟨w.heap.size + 1, 0, none⟩ = false := (by simp [World.frozen?, k1]); have f1 : w1.frozen? ⟨w.heap.size + 1, 1, none⟩ = false := (by simp [World.frozen?, k1]); clear k1 q1))
  all_goals
    go_wp2
    refine bodyPost_ret (v := .tuple #[v', .agg #[.int .i64 a1, .int .i64 a2], .bool true]) (by simp [results, Try.results25, go_sem, d0, d1]) rfl ⟨v', rfl, ?_⟩
    rw [HLE.out]
    have hne := HF.out (w.heap.size + 1) (by omega) (by simp)
    exact (HED.out.setCell (by simp) hne _).setCell (by simp) hne _

end Go.Proofs.Ytefeedpeiiaanaa
