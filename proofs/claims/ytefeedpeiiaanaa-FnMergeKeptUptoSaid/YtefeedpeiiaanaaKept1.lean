/- The contract of impl.kept, kind by kind: one step on a list in order. No statement of the seat is proved here. -/
import Derived.Test.YtefeedpeiiaanaaPut
namespace Go.Proofs.Ytefeedpeiiaanaa
open Go.RowKit

/-- What impl.kept leaves: the new list, the item and whether the step was made. -/
def KPost (w : World) (base : Nat) (v : Value) (S : List (Int × Int)) (x : Int × Int) (is : Bool) (e : Ending) (w' : World) : Prop :=
  ∃ v', e = .returned (.tuple #[v', .agg #[.int .i64 x.1, .int .i64 x.2], .bool is]) ∧ EditedItem w base v S.length (its S) (.returned v') w'

theorem own_ne_new {w : World} {base : Nat} {e : TypeId} {sz n : Nat} {v : Value} {xs : List Value} (h : w.ownsRow base e sz v n xs) {g : Nat} (hg : w.heap.size ≤ g) : v.ownBlock ≠ some g := by
  intro he
  have := (h.lt g he).2
  omega

/-- The blocks from lo on that were there are as they were. -/
def Keeps (lo : Nat) (W w1 : World) : Prop := ∀ g o, lo ≤ g → W.heap[g]? = some o → w1.heap[g]? = some o
theorem keeps_of {w W w1 : World} {base n m : Nat} {v : Value} {xs ys : List Value} {e : Ending} (hown : w.ownsRow base 28 2 v n xs) (h : EditedItem W base v m ys e w1) : Keeps w.heap.size W w1 := by
  obtain ⟨v', _, _, hg, _⟩ := h
  exact fun g o hgo hb => blk_grown hg hb (own_ne_new hown hgo)
/-- The new row is none of the blocks between. -/
def Off (lo hi : Nat) (v : Value) : Prop := ∀ g, lo ≤ g → g < hi → v.ownBlock ≠ some g
theorem off_of {w W w1 : World} {base n m : Nat} {v v' : Value} {xs ys : List Value} (hown : w.ownsRow base 28 2 v n xs) (h : EditedItem W base v m ys (.returned v') w1) : Off w.heap.size W.heap.size v' := by
  obtain ⟨v2, h0, _, hg, hl⟩ := h
  injection h0 with h0
  subst h0
  intro g h1 h2
  rcases hl with h | ⟨k, h, hk⟩
  · rw [h]; exact own_ne_new hown h1
  · rw [h]; intro e; injection e with e; omega
theorem EditedItem.setCell {w w1 : World} {base n : Nat} {v v' : Value} {xs : List Value} (h : EditedItem w base v n xs (.returned v') w1) {p : Addr} (hp : w.heap.size ≤ p.block) (hne : v'.ownBlock ≠ some p.block) (u : Value) : EditedItem w base v n xs (.returned v') (w1.setCell p u) := by
  obtain ⟨v2, h0, h1, h2, h3⟩ := h
  injection h0 with h0
  subst h0
  refine ⟨_, rfl, own_far h1 hne u, ⟨h2.os, h2.tape, h2.output, by simpa [World.setCell] using h2.size, fun i hi hn => ?_⟩, h3⟩
  rw [Below.heap_setCell _ _ _ _ (by omega)]
  exact h2.block i hi hn
theorem EditedItem.drew {w w1 : World} {base n : Nat} {v : Value} {xs : List Value} {e : Ending} (h : EditedItem w base v n xs e w1) : EditedItem w base v n xs e w1.drew := by
  obtain ⟨v2, h0, h1, h2, h3⟩ := h
  exact ⟨v2, h0, h1, grown_drew h2, h3⟩
theorem EditedItem.ext {w w1 w2 : World} {base n : Nat} {v : Value} {xs : List Value} {e : Ending} (h : EditedItem w base v n xs e w1) (hx : Ext w1 w2) : EditedItem w base v n xs e w2 := by
  obtain ⟨v2, h0, h1, h2, h3⟩ := h
  exact ⟨v2, h0, own_ext h1 hx, grown_trans h2 (grown_of_ext hx _), h3⟩
theorem Keeps.ext {lo : Nat} {W w1 : World} (h : Ext W w1) : Keeps lo W w1 := fun _ _ _ hb => blk_ext h hb

theorem put_fr (w W : World) (base : Nat) (v : Value) (n : Nat) (S : List (Int × Int)) (x1 x2 : Int) (hx : Ext w W) (hown : w.ownsRow base 28 2 v n (its S)) (ho : Ord S) (hs : n ≤ 1099511620000) (hbase : base ≤ w.heap.size) :
    Calls Try.prog 24 #[v, .agg #[.int .i64 x1, .int .i64 x2]] W fun e w1 => ∃ v', e = .returned v' ∧ Hid (EditedItem w base v (n + 1) (its (insP (x1, x2) S)) (.returned v') w1) ∧ Hid (Keeps w.heap.size W w1) ∧ Hid (Off w.heap.size W.heap.size v') := by
  refine (put_ok W base v n S (x1, x2) (own_ext hown hx) ho hs (Nat.le_trans hbase hx.size)).mono ?_
  intro e w1 hed
  have hk := keeps_of hown hed
  obtain ⟨v', rfl, h1, h2, h3⟩ := EditedItem.from hx hed
  exact ⟨v', rfl, ⟨v', rfl, h1, h2, h3⟩, hk, off_of hown hed⟩
theorem take_fr (w W : World) (base : Nat) (v : Value) (n : Nat) (S : List (Int × Int)) (x1 x2 : Int) (hx : Ext w W) (hown : w.ownsRow base 28 2 v n (its S)) (ho : Ord S) (hs : n ≤ 1099511620000) (hm : (x1, x2) ∈ S) :
    Calls Try.prog 38 #[v, .agg #[.int .i64 x1, .int .i64 x2]] W fun e w1 => ∃ v', e = .returned (.tuple #[v', .bool true]) ∧ Hid (EditedItem w base v (n - 1) (its (S.erase (x1, x2))) (.returned v') w1) ∧ Hid (Keeps w.heap.size W w1) ∧ Hid (Off w.heap.size W.heap.size v') := by
  refine (take_in W base v n S (x1, x2) (own_ext hown hx) ho hs hm).mono ?_
  rintro e w1 ⟨v', rfl, hed⟩
  have hk := keeps_of hown hed
  exact ⟨v', rfl, EditedItem.from hx hed, hk, off_of hown hed⟩
theorem delete_fr (w W : World) (base : Nat) (v : Value) (n : Nat) (S : List (Int × Int)) (hx : Ext w W) (hown : w.ownsRow base 28 2 v n (its S)) (hs : n ≤ 1099511620000) (hn : 0 < n) :
    Calls Try.prog 37 #[v, .int .i64 0, .int .i64 1] W fun e w1 => ∃ v', e = .returned v' ∧ Hid (EditedItem w base v (n - 1) (its S.tail) (.returned v') w1) ∧ Hid (Keeps w.heap.size W w1) ∧ Hid (Off w.heap.size W.heap.size v') := by
  have hd := deleteItem_ok W base v n (its S) 0 1 (own_ext hown hx) (its_one _) (by omega) (by omega) (by omega)
  have e1 : (its S).take (0 * 2) ++ (its S).drop (1 * 2) = its S.tail := by rw [its_del]; simp
  rw [e1, show 0 + (n - 1) = n - 1 by omega] at hd
  refine hd.mono ?_
  intro e w1 hed
  have hk := keeps_of hown hed
  obtain ⟨v', rfl, h1, h2, h3⟩ := EditedItem.from hx hed
  exact ⟨v', rfl, ⟨v', rfl, h1, h2, h3⟩, hk, off_of hown hed⟩

set_option maxRecDepth 100000 in
set_option maxHeartbeats 1600000 in
theorem kept_push (w : World) (base : Nat) (v : Value) (n : Nat) (S : List (Int × Int)) (x1 x2 y : Int) (hown : w.ownsRow base 28 2 v n (its S)) (ho : Ord S) (hs : n ≤ 1099511620000) (hbase : base ≤ w.heap.size) :
    Calls Try.prog 25 #[v, .agg #[.int .i64 0, .int .i64 x1, .int .i64 x2, .int .i64 y]] w (KPost w base v (insP (x1, x2) S) (x1, x2) true) := by
  have hn : (insP (x1, x2) S).length = n + 1 := by
    obtain ⟨A, c, rfl, hrow⟩ := own_form hown
    rw [insP_length, hrow.its_len]
  have HN := Lib.hid hn
  clear hn
  have hE : Ext w ((w.alloc (.cells #[.int .i64 0, .int .i64 x1, .int .i64 x2, .int .i64 y] 30)).alloc (.cells #[.int .i64 0, .int .i64 0] 28)) := ((Ext.refl w).alloc _).alloc _
  have hb0 : ((w.alloc (.cells #[.int .i64 0, .int .i64 x1, .int .i64 x2, .int .i64 y] 30)).alloc (.cells #[.int .i64 0, .int .i64 0] 28)).heap[w.heap.size]? = some (.cells #[.int .i64 0, .int .i64 x1, .int .i64 x2, .int .i64 y] 30) := blk_ext ((Ext.refl _).alloc _) (heap_alloc_new w _)
  have hb1 : ((w.alloc (.cells #[.int .i64 0, .int .i64 x1, .int .i64 x2, .int .i64 y] 30)).alloc (.cells #[.int .i64 0, .int .i64 0] 28)).heap[w.heap.size + 1]? = some (.cells #[.int .i64 0, .int .i64 0] 28) := by
    have := heap_alloc_new (w.alloc (.cells #[.int .i64 0, .int .i64 x1, .int .i64 x2, .int .i64 y] 30)) (.cells #[.int .i64 0, .int .i64 0] 28)
    simpa using this
  have HP := Lib.hid (put_fr w (((w.alloc (.cells #[.int .i64 0, .int .i64 x1, .int .i64 x2, .int .i64 y] 30)).alloc (.cells #[.int .i64 0, .int .i64 0] 28)).drew) base v n S x1 x2 hE.drew hown ho hs hbase)
  have HB0 := Lib.hid hb0
  have HB1 := Lib.hid hb1
  clear hown ho hE hb0 hb1
  go_enter Try.func25, Try.ntmps25
  go_wp2_with fail
  go_region_with ((go_at_call 24; go_loud (refine HP.out.mono ?_; rintro e w1 ⟨v', rfl, HED, HK, HF⟩; have k0 := HK.out _ _ (Nat.le_refl _) HB0.out; have k1 := HK.out _ _ (Nat.le_succ _) HB1.out; have c1 : w1.cell? ⟨w.heap.size, 1, none⟩ = some (.int .i64 x1) := (by simp [World.cell?, k0]); have c2 : w1.cell? ⟨w.heap.size, 1 + 1, none⟩ = some (.int .i64 x2) := (by simp [World.cell?, k0]); have d0 : w1.cell? ⟨w.heap.size + 1, 0, none⟩ = some (.int .i64 0) := (by simp [World.cell?, k1]); have d1 : w1.cell? ⟨w.heap.size + 1, 1, none⟩ = some (.int .i64 0) := (by simp [World.cell?, k1]); have f0 : w1.frozen? ⟨w.heap.size + 1, 0, none⟩ = false := (by simp [World.frozen?, k1]); have f1 : w1.frozen? ⟨w.heap.size + 1, 1, none⟩ = false := (by simp [World.frozen?, k1]); clear k0 k1)))
  all_goals
    go_wp2
    refine bodyPost_ret (v := .tuple #[v', .agg #[.int .i64 x1, .int .i64 x2], .bool true]) (by simp [results, Try.results25, go_sem, d0, d1]) rfl ⟨v', rfl, ?_⟩
    rw [HN.out]
    have hne := HF.out (w.heap.size + 1) (by omega) (by simp)
    exact (HED.out.setCell (by simp) hne _).setCell (by simp) hne _
end Go.Proofs.Ytefeedpeiiaanaa
