/- The contracts of impl.itemHeap's methods Push and Pop, and of container/heap's Init, Push, Pop, Remove, Fix over it. No statement of the seat is proved here. -/
import Derived.Test.YtefeedpeiiaanaaHeapDown
import Derived.Deep.RegionHeld3
namespace Go.Proofs.Ytefeedpeiiaanaa
open Go.RowKit

theorem elHeap : El Try.prog 48 28 2 16 := El.mk' (z := .agg #[.int .i64 0, .int .i64 0]) Try.underlying48 (by kernel_rfl) rfl (by decide)

/-- The world with new blocks and writes to block p and to one row alone. -/
structure Grown2 (w w' : World) (p : Nat) (row : Option Nat) : Prop where
  os : w'.os = w.os
  tape : w'.tape = w.tape
  output : w'.output = w.output
  size : w.heap.size ≤ w'.heap.size
  block : ∀ k, k < w.heap.size → k ≠ p → some k ≠ row → w'.heap[k]? = w.heap[k]?
/-- The new row is the old one, or new. -/
def Moved (w : World) (v v' : Value) : Prop := v'.ownBlock = v.ownBlock ∨ ∃ g, v'.ownBlock = some g ∧ w.heap.size ≤ g
theorem Grown2.refl (w : World) (p : Nat) (row : Option Nat) : Grown2 w w p row := ⟨rfl, rfl, rfl, Nat.le_refl _, fun _ _ _ _ => rfl⟩
theorem Grown2.of {w w' : World} {row : Option Nat} (h : w.grownBy w' row) (p : Nat) : Grown2 w w' p row := ⟨h.os, h.tape, h.output, h.size, fun k hk _ hn => h.block k hk hn⟩
theorem Grown2.ext {w w' : World} (h : Ext w w') (p : Nat) (row : Option Nat) : Grown2 w w' p row := Grown2.of (grown_of_ext h row) p
theorem Grown2.trans {a b c : World} {p : Nat} {v v' : Value} (h : Grown2 a b p v.ownBlock) (hm : Moved a v v') (k : Grown2 b c p v'.ownBlock) : Grown2 a c p v.ownBlock := by
  refine ⟨k.os.trans h.os, k.tape.trans h.tape, k.output.trans h.output, Nat.le_trans h.size k.size, fun i hi hp hn => ?_⟩
  refine (k.block i (Nat.lt_of_lt_of_le hi h.size) hp ?_).trans (h.block i hi hp hn)
  rcases hm with e | ⟨g, e, hg⟩
  · rw [e]; exact hn
  · rw [e]; intro hh; injection hh with hh; omega
theorem Moved.trans {a b : World} {v v' v'' : Value} (hs : a.heap.size ≤ b.heap.size) (h : Moved a v v') (k : Moved b v' v'') : Moved a v v'' := by
  rcases k with e | ⟨g, e, hg⟩
  · rcases h with e2 | ⟨g, e2, hg⟩
    · exact .inl (e.trans e2)
    · exact .inr ⟨g, e.trans e2, hg⟩
  · exact .inr ⟨g, e, Nat.le_trans hs hg⟩
theorem Grown2.store {w w' : World} {p : Nat} {row : Option Nat} (h : Grown2 w w' p row) (u : Value) : Grown2 w (w'.setCell ⟨p, 0, none⟩ u) p row :=
  ⟨h.os, h.tape, h.output, by simpa [World.setCell] using h.size, fun k hk hp hn => (Below.heap_setCell w' ⟨p, 0, none⟩ u k hp).trans (h.block k hk hp hn)⟩
theorem Grown2.drew {w w' : World} {p : Nat} {row : Option Nat} (h : Grown2 w w' p row) : Grown2 w w'.drew p row := ⟨h.os, h.tape, h.output, h.size, h.block⟩

theorem HSt.store {w w1 : World} {base p n m : Nat} {v v' : Value} {L L' : List (Int × Int)} (h : HSt w base p n v L) (hg : w.grownBy w1 v.ownBlock) (ho : w1.ownsRow base 28 2 v' m (its L')) : HSt (w1.setCell ⟨p, 0, none⟩ v') base p m v' L' := by
  have hb := blk_grown hg h.blk (row_ne h.own h.blk (by decide))
  refine ⟨?_, own_far ho (row_ne ho hb (by decide)) v', h.hb⟩
  have := blk_set hb 0 v'
  simpa using this

theorem assert_item (v : Value) (w : World) : (Instr.typeAssert (.iface 28 v) 20 28 false).run Try.prog w = .ok v w := by kernel_rfl

theorem its_append_one (L : List (Int × Int)) (x1 x2 : Int) : its (L ++ [(x1, x2)]) = its L ++ [.int .i64 x1, .int .i64 x2] := by rw [its_append]; rfl

set_option maxHeartbeats 800000 in
theorem pushM_ok (w : World) (base p n : Nat) (v : Value) (L : List (Int × Int)) (x1 x2 : Int) (h : HSt w base p n v L) (hs : n ≤ 1099511627776) (hbase : base ≤ w.heap.size) :
    Calls Try.prog 69 #[.pointer (some ⟨p, 0, none⟩), .iface 28 (.agg #[.int .i64 x1, .int .i64 x2])] w fun e w' => e = .returned (.tuple #[]) ∧ ∃ v', HSt w' base p (n + 1) v' (L ++ [(x1, x2)]) ∧ Grown2 w w' p v.ownBlock ∧ Moved w v v' := by
  obtain ⟨A, c, rfl, -⟩ := h.form
  have HH := Lib.hid h
  have hcell := h.cell
  have hfr := h.frozen
  clear h
  have hml1 : 1 ≤ maxLen := by unfold maxLen; omega
  have hmx : n + 1 ≤ maxLen := by unfold maxLen; omega
  have hby : (n + 1) * 16 ≤ 140737488355328 := by omega
  have hone := its_one [(x1, x2)]
  have hta := assert_item
  have hcA := cell_alloc_some hcell (.cells #[.int .i64 x1, .int .i64 x2] 28)
  go_enter Try.func69, Try.ntmps69
  go_wp2
  go_region_law (refine step_apps elHeap rfl (.tmp 7) (.tmp 10) rfl base (.slice A n c) n (its L) rfl (own_ext2 HH.out.own (((Ext.refl w).drew).alloc _)) (some ⟨w.heap.size, 0, none⟩) 1 1 [.int .i64 x1, .int .i64 x2] rfl (Row.fresh' w.drew _ 2 #[.int .i64 x1, .int .i64 x2] 1 w.heap.size rfl rfl hml1) hone hby hmx (by simp; omega) ?_; intro A1 c1 w1 HO1 HG1 HL1; have k1 := blk_grown HG1.out ((HH.out.ext (((Ext.refl w).drew).alloc _)).blk) (row_ne HH.out.own HH.out.blk (by decide)); have k2 : w1.cell? ⟨p, 0, none⟩ = some (.slice A n c) := (by simp [World.cell?, k1]); have k3 : w1.frozen? ⟨p, 0, none⟩ = false := (by simp [World.frozen?, k1]); clear k1)
  all_goals
   go_end0
   have ho := HO1.out
   rw [← its_append_one] at ho
   refine ⟨rfl, _, (HH.out.ext ((Ext.refl w).drew.alloc _)).store HG1.out ho, ?_, ?_⟩
   · exact ((Grown2.ext ((Ext.refl w).drew.alloc _) p _).trans (.inl rfl) (Grown2.of HG1.out p)).store _
   · rcases HL1.out with h | h
     · exact .inl h
     · exact .inr ⟨_, h, by simp⟩

set_option maxHeartbeats 800000 in
theorem popM_ok (w : World) (base p n : Nat) (v : Value) (L : List (Int × Int)) (h : HSt w base p n v L) (hn : 0 < n) :
    Calls Try.prog 68 #[.pointer (some ⟨p, 0, none⟩)] w fun e w' => e = .returned (.iface 28 (.agg #[.int .i64 (at0 L (n - 1)).1, .int .i64 (at0 L (n - 1)).2])) ∧ ∃ v', HSt w' base p (n - 1) v' (L.take (n - 1)) ∧ Grown2 w w' p v.ownBlock ∧ v'.ownBlock = v.ownBlock := by
  obtain ⟨A, c, rfl, hlim⟩ := h.form
  have hl := h.len
  obtain ⟨b, o, x1, x2, rfl, hxk, hc1, hc2⟩ := (Row.own h.own).item_at (k := n - 1) (by omega)
  have ex : at0 L (n - 1) = (x1, x2) := at0_of hxk.out
  rw [ex]
  have HL := Lib.hid hl
  clear hxk ex hl
  obtain ⟨m, hm⟩ : ∃ m, m = n - 1 := ⟨_, rfl⟩
  have em : (n : Int) - 1 = (m : Int) := by omega
  have hmn : m < n := by omega
  have hcn : n ≤ c := (Row.own h.own).le
  rw [← hm] at hc1 hc2 ⊢
  have HM := Lib.hid hm
  have HH := Lib.hid h
  have hcell := h.cell
  have hfr := h.frozen
  have hpl := blk_lt h.blk
  have hbl : b < w.heap.size := World.block_lt_of_cell? w _ hc1
  clear h hm
  go_enter Try.func68, Try.ntmps68
  go_wp2
  go_ret
  have hcs := own_cases HH.out.own
  refine ⟨rfl, .slice (some ⟨b, o, none⟩) m c, ?_, ?_, rfl⟩
  · have hst : HSt (w.setCell ⟨p, 0, none⟩ (.slice (some ⟨b, o, none⟩) m c)) base p m (.slice (some ⟨b, o, none⟩) m c) (L.take m) := by
      refine HH.out.store (World.grownBy.refl w _) ?_
      rcases hcs with ⟨hv, _⟩ | ⟨g, c', cur, hv, hb, hg, hnc, hcm, hcl, ht⟩
      · cases hv
      · injection hv with h1 h2 h3
        injection h1 with h1
        injection h1 with h1 h2
        subst h1 h2 h3
        have hk := own_mk (n := m) (sz := 2) hb hg (by omega) hcm hcl
        rw [← its_take, ← ht, List.take_take, Nat.min_eq_left (by omega)]
        exact hk
    exact hst.ext ((Ext.refl _).alloc _)
  · exact ((Grown2.refl w p _).store _).trans (v := .slice (some ⟨b, o, none⟩) n c) (v' := .slice (some ⟨b, o, none⟩) n c) (.inl rfl) (Grown2.ext ((Ext.refl _).alloc _) p _)
end Go.Proofs.Ytefeedpeiiaanaa
