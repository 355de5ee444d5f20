/- The contract of impl.kept, kind by kind, the other kinds. No statement of the seat is proved here. -/
import Derived.Test.YtefeedpeiiaanaaKept1
namespace Go.Proofs.Ytefeedpeiiaanaa
open Go.RowKit

theorem EditedItem.same {w w' : World} {base n : Nat} {v : Value} {xs : List Value} (h : w.ownsRow base 28 2 v n xs) (hx : Ext w w') : EditedItem w base v n xs (.returned v) w' :=
  ⟨v, rfl, own_ext h hx, grown_of_ext hx _, .inl rfl⟩
theorem EditedItem.trans {w w1 w2 : World} {base n m : Nat} {v v1 v2 : Value} {xs ys : List Value} (h : EditedItem w base v n xs (.returned v1) w1) (k : EditedItem w1 base v1 m ys (.returned v2) w2) : EditedItem w base v m ys (.returned v2) w2 := by
  obtain ⟨a, h0, h1, h2, h3⟩ := h
  obtain ⟨b, k0, k1, k2, k3⟩ := k
  injection h0 with h0
  injection k0 with k0
  subst h0 k0
  refine ⟨_, rfl, k1, ⟨k2.os.trans h2.os, k2.tape.trans h2.tape, k2.output.trans h2.output, Nat.le_trans h2.size k2.size, fun i hi hn => ?_⟩, ?_⟩
  · have hne : some i ≠ v1.ownBlock := by
      rcases h3 with e | ⟨g, e, hg⟩
      · rw [e]; exact hn
      · rw [e]; intro hh; injection hh with hh; omega
    exact (k2.block i (Nat.lt_of_lt_of_le hi h2.size) hne).trans (h2.block i hi hn)
  · rcases k3 with e | ⟨g, e, hg⟩
    · rcases h3 with e2 | ⟨g, e2, hg⟩
      · exact .inl (e.trans e2)
      · exact .inr ⟨g, e.trans e2, hg⟩
    · exact .inr ⟨g, e, Nat.le_trans h2.size hg⟩
theorem its_len_own {w : World} {base n : Nat} {v : Value} {S : List (Int × Int)} (h : w.ownsRow base 28 2 v n (its S)) : S.length = n := by
  have := h.1
  rw [its_length] at this
  omega

set_option maxRecDepth 100000 in
set_option maxHeartbeats 1600000 in
theorem kept_init (w : World) (base : Nat) (v : Value) (n : Nat) (S : List (Int × Int)) (x1 x2 y : Int) (hown : w.ownsRow base 28 2 v n (its S)) :
    Calls Try.prog 25 #[v, .agg #[.int .i64 4, .int .i64 x1, .int .i64 x2, .int .i64 y]] w (KPost w base v S (0, 0) true) := by
  have HN := Lib.hid (its_len_own hown)
  have HOWN := Lib.hid hown
  clear hown
  go_enter Try.func25, Try.ntmps25
  go_wp2
  refine bodyPost_ret (v := .tuple #[v, .agg #[.int .i64 0, .int .i64 0], .bool true]) (by simp [results, Try.results25, go_sem]) rfl ⟨v, rfl, ?_⟩
  rw [HN.out]
  exact EditedItem.same HOWN.out (by repeat (first | exact Ext.refl _ | assumption | refine Ext.drew ?_ | refine Ext.drewN ?_ _ | refine Ext.alloc ?_ _ | refine Ext.trans ?_ (by assumption)))
set_option maxRecDepth 100000 in
set_option maxHeartbeats 1600000 in
theorem kept_other (w : World) (base : Nat) (v : Value) (n : Nat) (S : List (Int × Int)) (x1 x2 y : Int) (k : Int) (h0 : (k == 0) = false) (h1 : (k == 1) = false) (h2 : (k == 2) = false) (h3 : (k == 3) = false) (h4 : (k == 4) = false) (hown : w.ownsRow base 28 2 v n (its S)) :
    Calls Try.prog 25 #[v, .agg #[.int .i64 k, .int .i64 x1, .int .i64 x2, .int .i64 y]] w (KPost w base v S (0, 0) false) := by
  have HN := Lib.hid (its_len_own hown)
  have HOWN := Lib.hid hown
  clear hown
  go_enter Try.func25, Try.ntmps25
  go_wp2
  refine bodyPost_ret (v := .tuple #[v, .agg #[.int .i64 0, .int .i64 0], .bool false]) (by simp [results, Try.results25, go_sem]) rfl ⟨v, rfl, ?_⟩
  rw [HN.out]
  exact EditedItem.same HOWN.out (by repeat (first | exact Ext.refl _ | assumption | refine Ext.drew ?_ | refine Ext.drewN ?_ _ | refine Ext.alloc ?_ _ | refine Ext.trans ?_ (by assumption)))
set_option maxRecDepth 100000 in
set_option maxHeartbeats 1600000 in
theorem kept_pop_none (w : World) (base : Nat) (v : Value) (n : Nat) (S : List (Int × Int)) (x1 x2 y : Int) (hown : w.ownsRow base 28 2 v n (its S)) (hn : n = 0) :
    Calls Try.prog 25 #[v, .agg #[.int .i64 1, .int .i64 x1, .int .i64 x2, .int .i64 y]] w (KPost w base v S (0, 0) false) := by
  have HN := Lib.hid (its_len_own hown)
  obtain ⟨A, c, rfl, _⟩ := own_form hown
  have HOWN := Lib.hid hown
  subst hn
  clear hown
  go_enter Try.func25, Try.ntmps25
  go_wp2
  refine bodyPost_ret (v := .tuple #[.slice A 0 c, .agg #[.int .i64 0, .int .i64 0], .bool false]) (by simp [results, Try.results25, go_sem]) rfl ⟨_, rfl, ?_⟩
  rw [HN.out]
  exact EditedItem.same HOWN.out (by repeat (first | exact Ext.refl _ | assumption | refine Ext.drew ?_ | refine Ext.drewN ?_ _ | refine Ext.alloc ?_ _ | refine Ext.trans ?_ (by assumption)))

set_option maxRecDepth 100000 in
set_option maxHeartbeats 1600000 in
theorem kept_out2 (w : World) (base : Nat) (v : Value) (n : Nat) (S : List (Int × Int)) (x1 x2 y : Int) (hown : w.ownsRow base 28 2 v n (its S)) (ho : Ord S) (hs : n ≤ 1099511620000) (hm : (x1, x2) ∉ S) :
    Calls Try.prog 25 #[v, .agg #[.int .i64 2, .int .i64 x1, .int .i64 x2, .int .i64 y]] w (KPost w base v S (0, 0) false) := by
  have HN := Lib.hid (its_len_own hown)
  have hE : Ext w ((w.alloc (.cells #[.int .i64 2, .int .i64 x1, .int .i64 x2, .int .i64 y] 30)).alloc (.cells #[.int .i64 0, .int .i64 0] 28)) := ((Ext.refl w).alloc _).alloc _
  have hb0 : ((w.alloc (.cells #[.int .i64 2, .int .i64 x1, .int .i64 x2, .int .i64 y] 30)).alloc (.cells #[.int .i64 0, .int .i64 0] 28)).heap[w.heap.size]? = some (.cells #[.int .i64 2, .int .i64 x1, .int .i64 x2, .int .i64 y] 30) := blk_ext ((Ext.refl _).alloc _) (heap_alloc_new w _)
  have hb1 : ((w.alloc (.cells #[.int .i64 2, .int .i64 x1, .int .i64 x2, .int .i64 y] 30)).alloc (.cells #[.int .i64 0, .int .i64 0] 28)).heap[w.heap.size + 1]? = some (.cells #[.int .i64 0, .int .i64 0] 28) := by
    have := heap_alloc_new (w.alloc (.cells #[.int .i64 2, .int .i64 x1, .int .i64 x2, .int .i64 y] 30)) (.cells #[.int .i64 0, .int .i64 0] 28)
    simpa using this
  have HP := Lib.hid (take_out ((w.alloc (.cells #[.int .i64 2, .int .i64 x1, .int .i64 x2, .int .i64 y] 30)).alloc (.cells #[.int .i64 0, .int .i64 0] 28)) base v n S (x1, x2) (own_ext hown hE) ho hs hm)
  have HOWN := Lib.hid hown
  have HB0 := Lib.hid hb0
  have HB1 := Lib.hid hb1
  have HE := Lib.hid hE
  clear hown ho hm hE hb0 hb1
  go_enter Try.func25, Try.ntmps25
  go_wp2_with fail
  refine HP.out.mono ?_
  rintro e w1 ⟨rfl, hw1⟩
  have k1 := blk_ext hw1 HB1.out
  have d0 : w1.cell? ⟨w.heap.size + 1, 0, none⟩ = some (.int .i64 0) := (by simp [World.cell?, k1])
  have d1 : w1.cell? ⟨w.heap.size + 1, 1, none⟩ = some (.int .i64 0) := (by simp [World.cell?, k1])
  have f0 : w1.frozen? ⟨w.heap.size + 1, 0, none⟩ = false := (by simp [World.frozen?, k1])
  have f1 : w1.frozen? ⟨w.heap.size + 1, 1, none⟩ = false := (by simp [World.frozen?, k1])
  have HW : Hid (Ext w w1) := HE.out.trans hw1
  clear k1 hw1
  go_wp2
  refine bodyPost_ret (v := .tuple #[v, .agg #[.int .i64 0, .int .i64 0], .bool false]) (by simp [results, Try.results25, go_sem, d0, d1]) rfl ⟨v, rfl, ?_⟩
  rw [HN.out]
  exact EditedItem.same HOWN.out ((HW.out.setCell (by simp) _).setCell (by simp) _)

set_option maxRecDepth 100000 in
set_option maxHeartbeats 1600000 in
theorem kept_out3 (w : World) (base : Nat) (v : Value) (n : Nat) (S : List (Int × Int)) (x1 x2 y : Int) (hown : w.ownsRow base 28 2 v n (its S)) (ho : Ord S) (hs : n ≤ 1099511620000) (hm : (x1, x2) ∉ S) :
    Calls Try.prog 25 #[v, .agg #[.int .i64 3, .int .i64 x1, .int .i64 x2, .int .i64 y]] w (KPost w base v S (0, 0) false) := by
  have HN := Lib.hid (its_len_own hown)
  have hE : Ext w ((w.alloc (.cells #[.int .i64 3, .int .i64 x1, .int .i64 x2, .int .i64 y] 30)).alloc (.cells #[.int .i64 0, .int .i64 0] 28)) := ((Ext.refl w).alloc _).alloc _
  have hb0 : ((w.alloc (.cells #[.int .i64 3, .int .i64 x1, .int .i64 x2, .int .i64 y] 30)).alloc (.cells #[.int .i64 0, .int .i64 0] 28)).heap[w.heap.size]? = some (.cells #[.int .i64 3, .int .i64 x1, .int .i64 x2, .int .i64 y] 30) := blk_ext ((Ext.refl _).alloc _) (heap_alloc_new w _)
  have hb1 : ((w.alloc (.cells #[.int .i64 3, .int .i64 x1, .int .i64 x2, .int .i64 y] 30)).alloc (.cells #[.int .i64 0, .int .i64 0] 28)).heap[w.heap.size + 1]? = some (.cells #[.int .i64 0, .int .i64 0] 28) := by
    have := heap_alloc_new (w.alloc (.cells #[.int .i64 3, .int .i64 x1, .int .i64 x2, .int .i64 y] 30)) (.cells #[.int .i64 0, .int .i64 0] 28)
    simpa using this
  have HP := Lib.hid (take_out ((w.alloc (.cells #[.int .i64 3, .int .i64 x1, .int .i64 x2, .int .i64 y] 30)).alloc (.cells #[.int .i64 0, .int .i64 0] 28)) base v n S (x1, x2) (own_ext hown hE) ho hs hm)
  have HOWN := Lib.hid hown
  have HB0 := Lib.hid hb0
  have HB1 := Lib.hid hb1
  have HE := Lib.hid hE
  clear hown ho hm hE hb0 hb1
  go_enter Try.func25, Try.ntmps25
  go_wp2_with fail
  refine HP.out.mono ?_
  rintro e w1 ⟨rfl, hw1⟩
  have k1 := blk_ext hw1 HB1.out
  have d0 : w1.cell? ⟨w.heap.size + 1, 0, none⟩ = some (.int .i64 0) := (by simp [World.cell?, k1])
  have d1 : w1.cell? ⟨w.heap.size + 1, 1, none⟩ = some (.int .i64 0) := (by simp [World.cell?, k1])
  have f0 : w1.frozen? ⟨w.heap.size + 1, 0, none⟩ = false := (by simp [World.frozen?, k1])
  have f1 : w1.frozen? ⟨w.heap.size + 1, 1, none⟩ = false := (by simp [World.frozen?, k1])
  have HW : Hid (Ext w w1) := HE.out.trans hw1
  clear k1 hw1
  go_wp2
  refine bodyPost_ret (v := .tuple #[v, .agg #[.int .i64 0, .int .i64 0], .bool false]) (by simp [results, Try.results25, go_sem, d0, d1]) rfl ⟨v, rfl, ?_⟩
  rw [HN.out]
  exact EditedItem.same HOWN.out ((HW.out.setCell (by simp) _).setCell (by simp) _)

end Go.Proofs.Ytefeedpeiiaanaa
