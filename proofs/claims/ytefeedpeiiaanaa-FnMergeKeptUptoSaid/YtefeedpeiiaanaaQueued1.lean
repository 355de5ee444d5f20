/- The contract of impl.queued, kind by kind: one step on a heap. No statement of the seat is proved here. -/
import Derived.Test.YtefeedpeiiaanaaIndex
import Derived.Test.YtefeedpeiiaanaaHeapFns
namespace Go.Proofs.Ytefeedpeiiaanaa
open Go.RowKit

/-- What impl.queued leaves: the new list, the item and whether the step was made. -/
def QPost (w : World) (base p : Nat) (v : Value) (L : List (Int × Int)) (x : Int × Int) (is : Bool) (e : Ending) (w' : World) : Prop :=
  e = .returned (.tuple #[.agg #[.int .i64 x.1, .int .i64 x.2], .bool is]) ∧ ∃ v', HSt w' base p L.length v' L ∧ Grown2 w w' p v.ownBlock ∧ Moved w v v'

/-- The blocks that lie behind those of w are as they were. -/
theorem Grown2.keep {w W w' : World} {base p n : Nat} {v : Value} {L : List (Int × Int)} (h : HSt w base p n v L) (hg : Grown2 W w' p v.ownBlock) {g : Nat} {o : Obj} (hz : w.heap.size ≤ g) (hb : W.heap[g]? = some o) : w'.heap[g]? = some o := by
  have hp := blk_lt h.blk
  rw [hg.block g (blk_lt hb) (by omega) (fun e => by have := (h.own.lt g e.symm).2; omega), hb]
theorem HSt.far {w : World} {base p n : Nat} {v : Value} {L : List (Int × Int)} (h : HSt w base p n v L) {q : Addr} {o : TypeId} {cs : Array Value} (hq : w.heap[q.block]? = some (.cells cs o (0, 0))) (hne : o ≠ 48) (hn2 : v.ownBlock ≠ some q.block) (u : Value) : HSt (w.setCell q u) base p n v L := by
  refine ⟨blk_far h.blk (fun e => ?_) u, own_far h.own hn2 u, h.hb⟩
  rw [← e, h.blk] at hq
  injection hq with hq
  injection hq with h1 h2
  exact hne h2.symm
theorem Grown2.far {w w' : World} {p : Nat} {row : Option Nat} (h : Grown2 w w' p row) {q : Addr} (hq : w.heap.size ≤ q.block) (u : Value) : Grown2 w (w'.setCell q u) p row :=
  ⟨h.os, h.tape, h.output, by simpa [World.setCell] using h.size, fun k hk hp hn => (Below.heap_setCell w' q u k (by omega)).trans (h.block k hk hp hn)⟩

/-- A step's own variables: the step, and the item that is told. -/
structure Own2 (w W : World) (k x1 x2 y : Int) : Prop where
  b0 : W.heap[w.heap.size]? = some (.cells #[.int .i64 k, .int .i64 x1, .int .i64 x2, .int .i64 y] 30 (0, 0))
  b1 : W.heap[w.heap.size + 1]? = some (.cells #[.int .i64 0, .int .i64 0] 28 (0, 0))
section
variable {w W W' : World} {k x1 x2 y : Int}
theorem Own2.ext (h : Own2 w W k x1 x2 y) (hx : Ext W W') : Own2 w W' k x1 x2 y := ⟨blk_ext hx h.b0, blk_ext hx h.b1⟩
theorem Own2.grown {base p n : Nat} {v : Value} {L : List (Int × Int)} (h : Own2 w W k x1 x2 y) (hh : HSt w base p n v L) (hg : Grown2 W W' p v.ownBlock) : Own2 w W' k x1 x2 y :=
  ⟨hg.keep hh (Nat.le_refl _) h.b0, hg.keep hh (Nat.le_succ _) h.b1⟩
theorem Own2.s0 (h : Own2 w W k x1 x2 y) : W.cell? ⟨w.heap.size, 0, none⟩ = some (.int .i64 k) := by simp [World.cell?, h.b0]
theorem Own2.s1 (h : Own2 w W k x1 x2 y) : W.cell? ⟨w.heap.size, 1, none⟩ = some (.int .i64 x1) := by simp [World.cell?, h.b0]
theorem Own2.s2 (h : Own2 w W k x1 x2 y) : W.cell? ⟨w.heap.size, 1 + 1, none⟩ = some (.int .i64 x2) := by simp [World.cell?, h.b0]
theorem Own2.s3 (h : Own2 w W k x1 x2 y) : W.cell? ⟨w.heap.size, 3, none⟩ = some (.int .i64 y) := by simp [World.cell?, h.b0]
theorem Own2.r0 (h : Own2 w W k x1 x2 y) : W.cell? ⟨w.heap.size + 1, 0, none⟩ = some (.int .i64 0) := by simp [World.cell?, h.b1]
theorem Own2.r1 (h : Own2 w W k x1 x2 y) : W.cell? ⟨w.heap.size + 1, 1, none⟩ = some (.int .i64 0) := by simp [World.cell?, h.b1]
theorem Own2.f0 (h : Own2 w W k x1 x2 y) : W.frozen? ⟨w.heap.size + 1, 0, none⟩ = false := by simp [World.frozen?, h.b1]
theorem Own2.f1 (h : Own2 w W k x1 x2 y) : W.frozen? ⟨w.heap.size + 1, 1, none⟩ = false := by simp [World.frozen?, h.b1]
end
theorem own2_new (w : World) (k x1 x2 y : Int) : Own2 w ((w.alloc (.cells #[.int .i64 k, .int .i64 x1, .int .i64 x2, .int .i64 y] 30)).alloc (.cells #[.int .i64 0, .int .i64 0] 28)) k x1 x2 y := by
  refine ⟨blk_ext ((Ext.refl _).alloc _) (heap_alloc_new w _), ?_⟩
  have := heap_alloc_new (w.alloc (.cells #[.int .i64 k, .int .i64 x1, .int .i64 x2, .int .i64 y] 30)) (.cells #[.int .i64 0, .int .i64 0] 28)
  simpa using this
/-- The end: the item is told. -/
theorem qpost_mk {w W : World} {base p : Nat} {v v' : Value} {M : List (Int × Int)} {k x1 x2 y : Int} {m : Nat} (ho : Own2 w W k x1 x2 y) (hh : HSt W base p m v' M) (hg : Grown2 w W p v.ownBlock) (hm : Moved w v v') (hl : ∀ g, v'.ownBlock = some g → g ≠ w.heap.size + 1) (u1 u2 : Value) :
    ∃ v', HSt ((W.setCell ⟨w.heap.size + 1, 0, none⟩ u1).setCell ⟨w.heap.size + 1, 1, none⟩ u2) base p M.length v' M ∧ Grown2 w ((W.setCell ⟨w.heap.size + 1, 0, none⟩ u1).setCell ⟨w.heap.size + 1, 1, none⟩ u2) p v.ownBlock ∧ Moved w v v' := by
  obtain rfl := hh.len
  refine ⟨v', ?_, (hg.far (by simp) _).far (by simp) _, hm⟩
  have h1 := hh.far (q := ⟨w.heap.size + 1, 0, none⟩) ho.b1 (by decide) (fun e => hl _ e rfl) u1
  exact h1.far (q := ⟨w.heap.size + 1, 1, none⟩) (blk_set ho.b1 0 u1) (by decide) (fun e => hl _ e rfl) u2

theorem off_own {w w1 : World} {base p n : Nat} {v v' : Value} {L : List (Int × Int)} {k x1 x2 y : Int} (h : HSt w base p n v L) (ho : Own2 w w1 k x1 x2 y) (hm : Moved w1 v v') : ∀ g, v'.ownBlock = some g → g ≠ w.heap.size + 1 := by
  intro g hg e
  have hl := blk_lt ho.b1
  rcases hm with h1 | ⟨g', h1, h2⟩
  · rw [h1] at hg
    have := (h.own.lt g hg).2
    omega
  · rw [h1] at hg
    injection hg with hg
    omega
/-- The end of a step: the heap behind it, and the item in its variable. -/
theorem qdone {w w1 w2 : World} {base p n m : Nat} {v v' : Value} {L M : List (Int × Int)} {k x1 x2 y : Int} (h : HSt w base p n v L) (hx : Ext w w1) (ho : Own2 w w1 k x1 x2 y) (hh : HSt w2 base p m v' M) (hg : Grown2 w1 w2 p v.ownBlock) (hm : Moved w1 v v') (u1 u2 : Value) :
    ∃ v', HSt ((w2.setCell ⟨w.heap.size + 1, 0, none⟩ u1).setCell ⟨w.heap.size + 1, 1, none⟩ u2) base p M.length v' M ∧ Grown2 w ((w2.setCell ⟨w.heap.size + 1, 0, none⟩ u1).setCell ⟨w.heap.size + 1, 1, none⟩ u2) p v.ownBlock ∧ Moved w v v' :=
  qpost_mk (ho.grown h hg) hh (Grown2.trans (v := v) (v' := v) (Grown2.ext hx p _) (.inl rfl) hg) (Moved.trans hx.size (.inl rfl) hm) (off_own h ho hm) u1 u2
theorem at0_idxOf {L : List (Int × Int)} {x : Int × Int} (h : x ∈ L) : at0 L (L.idxOf x) = x := by
  have hl := List.idxOf_lt_length_iff.2 h
  simp [at0, hl]
theorem HSt.frozen_row {w : World} {base p n c b o : Nat} {L : List (Int × Int)} (h : HSt w base p n (.slice (some ⟨b, o, none⟩) n c) L) (i : Nat) : w.frozen? ⟨b, o + i * 2, none⟩ = false := by
  rcases own_cases h.own with ⟨hv, _⟩ | ⟨g, c', cur, hv, hb, hg, hnc, hcm, hcl, ht⟩
  · cases hv
  · injection hv with h1
    injection h1 with h1
    injection h1 with h1
    subst h1
    exact hg.frozen _
/-- A key is changed in its place. -/
theorem HSt.setKey {w : World} {base p n c b o i : Nat} {L : List (Int × Int)} {x1 x2 : Int} (h : HSt w base p n (.slice (some ⟨b, o, none⟩) n c) L) (hx : L[i]? = some (x1, x2)) (y : Int) :
    HSt (w.setCell ⟨b, o + i * 2, none⟩ (.int .i64 y)) base p n (.slice (some ⟨b, o, none⟩) n c) (L.set i (y, x2)) ∧ w.grownBy (w.setCell ⟨b, o + i * 2, none⟩ (.int .i64 y)) (some b) := by
  have hgr : w.grownBy (w.setCell ⟨b, o + i * 2, none⟩ (.int .i64 y)) (some b) := ⟨rfl, rfl, rfl, by simp [World.setCell], fun q _ hq => Below.heap_setCell w _ _ q (fun e => hq (by rw [e]))⟩
  refine ⟨h.swap ?_ hgr, hgr⟩
  rcases own_cases h.own with ⟨hv, _⟩ | ⟨g, c', cur, hv, hb, hg, hnc, hcm, hcl, ht⟩
  · cases hv
  · injection hv with h1 h2 h3
    injection h1 with h1
    injection h1 with h1 h2
    subst h1 h2 h3
    have hs : Blk (w.setCell ⟨b, 0 + i * 2, none⟩ (.int .i64 y)) b 28 (cur.set (i * 2) (.int .i64 y)) := by
      have := blk_set hg (i * 2) (.int .i64 y)
      rw [Nat.zero_add]
      have e0 : cur.toArray.setIfInBounds (i * 2) (.int .i64 y) = (cur.set (i * 2) (.int .i64 y)).toArray := by simp
      rw [e0] at this
      exact this
    have hk := own_mk (n := n) (sz := 2) hb hs hnc hcm (by simpa using hcl)
    rw [List.take_set, ht] at hk
    have e1 : its (L.set i (y, x2)) = (its L).set (i * 2) (.int .i64 y) := by
      rw [← its_set]
      have hg2 := (its_get L i).2
      rw [hx] at hg2
      simp only [Option.map_some] at hg2
      obtain ⟨hlt, he⟩ := List.getElem?_eq_some_iff.1 hg2
      have h3 : ((its L).set (i * 2) (.int .i64 y))[i * 2 + 1]? = some (.int .i64 x2) := by
        rw [List.getElem?_set_ne (by omega)]
        exact hg2
      obtain ⟨hlt3, he3⟩ := List.getElem?_eq_some_iff.1 h3
      rw [← he3]
      exact List.set_getElem_self hlt3
    rw [e1]
    exact hk
end Go.Proofs.Ytefeedpeiiaanaa
