/- The contracts of impl.itemHeap's methods Len, Less, Swap. No statement of the seat is proved here. -/
import Derived.Test.YtefeedpeiiaanaaCompare
import Derived.Test.YtefeedpeiiaanaaHeapPlain
import Derived.Test.YtefeedpeiiaanaaLaws3
import Derived.Test.YtefeedpeiiaanaaMono
namespace Go.Proofs.Ytefeedpeiiaanaa
open Go.RowKit

theorem len_ok (A : Option Addr) (n c : Nat) (w : World) : Calls Try.prog 65 #[.slice A n c] w fun e w' => e = .returned (.int .i64 (n : Int)) ∧ w = w' := by
  go_enter Try.func65, Try.ntmps65
  go_wp2
  go_ret
  exact ⟨rfl, rfl⟩

theorem at0_of {L : List (Int × Int)} {i : Nat} {x : Int × Int} (h : L[i]? = some x) : at0 L i = x := by simp [at0, h]

set_option maxHeartbeats 800000 in
theorem less_ok (A : Option Addr) (n c i j : Nat) (L : List (Int × Int)) (w : World) (hx : Row w 2 A n c (its L)) (hi : i < n) (hj : j < n) :
    Calls Try.prog 66 #[.slice A n c, .int .i64 (i : Int), .int .i64 (j : Int)] w fun e w' => e = .returned (.bool (ltP (at0 L i) (at0 L j))) ∧ Ext w w' := by
  obtain ⟨b, o, x1, x2, rfl, hxi, hc1, hc2⟩ := hx.item_at hi
  obtain ⟨b', o', y1, y2, hbo, hxj, hd1, hd2⟩ := hx.item_at hj
  simp at hbo
  obtain ⟨rfl, rfl⟩ := hbo
  rw [at0_of hxi.out, at0_of hxj.out]
  have HE : Hid (decide (cmpP (x1, x2) (y1, y2) < 0) = ltP (x1, x2) (y1, y2)) := by
    have h := cmpP_neg (x1, x2) (y1, y2)
    unfold Hid
    rw [ltP]
    cases hl : leP (y1, y2) (x1, x2) with
    | false => simpa using h.2 hl
    | true =>
      simp only [Bool.not_true, decide_eq_false_iff_not]
      intro h0
      rw [h.1 h0] at hl
      cases hl
  have hlim := hx.lim
  unfold maxLen at hlim
  clear hx hxi hxj
  go_enter Try.func66, Try.ntmps66
  go_wp2
  go_region_held3 (fun w' => w'.cell? ⟨b, o + i * 2, none⟩ = some (.int .i64 x1) ∧ w'.cell? ⟨b, o + i * 2 + 1, none⟩ = some (.int .i64 x2) ∧ w'.cell? ⟨b, o + j * 2, none⟩ = some (.int .i64 y1) ∧ w'.cell? ⟨b, o + j * 2 + 1, none⟩ = some (.int .i64 y2))
    (first | go_keep | exact ⟨hx1.cell_some (by assumption), hx1.cell_some (by assumption), hx1.cell_some (by assumption), hx1.cell_some (by assumption)⟩)
    ((go_at_call 35; refine (compareItems_ok (x1, x2) (y1, y2) _).mono ?_; rintro e w1 ⟨rfl, hx1⟩))
  go_wp2
  go_ret
  exact ⟨by rw [HE.out]; rfl, (Ext.refl w).drew.trans hx1⟩

/-- The world behind an exchange. -/
def swapW (w : World) (g i j : Nat) (x1 x2 y1 y2 : Int) : World :=
  ((((w.setCell ⟨g, i * 2, none⟩ (.int .i64 y1)).setCell ⟨g, i * 2 + 1, none⟩ (.int .i64 y2)).setCell ⟨g, j * 2, none⟩ (.int .i64 x1)).setCell ⟨g, j * 2 + 1, none⟩ (.int .i64 x2)).drew

set_option maxHeartbeats 800000 in
theorem swap_cells (g n c i j : Nat) (x1 x2 y1 y2 : Int) (w : World) (hi : i < n) (hj : j < n) (_hn : n ≤ 9223372036854775807)
    (hc1 : w.cell? ⟨g, i * 2, none⟩ = some (.int .i64 x1)) (hc2 : w.cell? ⟨g, i * 2 + 1, none⟩ = some (.int .i64 x2)) (hd1 : w.cell? ⟨g, j * 2, none⟩ = some (.int .i64 y1)) (hd2 : w.cell? ⟨g, j * 2 + 1, none⟩ = some (.int .i64 y2))
    (hf1 : w.frozen? ⟨g, i * 2, none⟩ = false) (hf2 : w.frozen? ⟨g, i * 2 + 1, none⟩ = false) (hf3 : w.frozen? ⟨g, j * 2, none⟩ = false) (hf4 : w.frozen? ⟨g, j * 2 + 1, none⟩ = false) :
    Calls Try.prog 67 #[.slice (some ⟨g, 0, none⟩) n c, .int .i64 (i : Int), .int .i64 (j : Int)] w fun e w' => e = .returned (.tuple #[]) ∧ w' = swapW w g i j x1 x2 y1 y2 := by
  by_cases hne : i = j
  · subst hne
    obtain rfl : x1 = y1 := by rw [hc1] at hd1; simpa using hd1
    obtain rfl : x2 = y2 := by rw [hc2] at hd2; simpa using hd2
    clear hd1 hd2 hf3 hf4 hj
    unfold swapW
    go_enter Try.func67, Try.ntmps67
    go_wp2
    go_region
    all_goals (go_end0; exact ⟨rfl, rfl⟩)
  · have e1 : ¬ i * 2 = j * 2 := by omega
    have e2 : ¬ i * 2 = j * 2 + 1 := by omega
    have e3 : ¬ i * 2 + 1 = j * 2 := by omega
    have e4 : ¬ i * 2 + 1 = j * 2 + 1 := by omega
    unfold swapW
    go_enter Try.func67, Try.ntmps67
    go_wp2
    go_region
    all_goals (go_end0; exact ⟨rfl, rfl⟩)

theorem its_set (L : List (Int × Int)) (i : Nat) (a b : Int) : ((its L).set (i * 2) (.int .i64 a)).set (i * 2 + 1) (.int .i64 b) = its (L.set i (a, b)) := by
  induction L generalizing i with
  | nil => simp [its]
  | cons x L ih =>
    cases i with
    | zero => simp [its_cons]
    | succ i =>
      rw [show (i + 1) * 2 = i * 2 + 1 + 1 by omega, its_cons]
      simp only [List.set_cons_succ, ih, its_cons]

theorem swap_ok (w : World) (base : Nat) (v : Value) (n i j : Nat) (L : List (Int × Int)) (hown : w.ownsRow base 28 2 v n (its L)) (hi : i < n) (hj : j < n) :
    Calls Try.prog 67 #[v, .int .i64 (i : Int), .int .i64 (j : Int)] w fun e w' => e = .returned (.tuple #[]) ∧ w'.ownsRow base 28 2 v n (its (swapL L i j)) ∧ w.grownBy w' v.ownBlock := by
  have hl : L.length = n := by have := hown.1; rw [its_length] at this; omega
  rcases own_cases hown with ⟨_, h0, _⟩ | ⟨g, c, cur, rfl, hb, hg, hnc, hcm, hcl, ht⟩
  · omega
  · have hlim : n ≤ 9223372036854775807 := by unfold maxLen at hcm; omega
    have hget : ∀ k, k < n * 2 → cur[k]? = (its L)[k]? := fun k hk => by rw [← ht, List.getElem?_take_of_lt hk]
    have hi' : L[i]? = some L[i] := List.getElem?_eq_getElem (by omega)
    have hj' : L[j]? = some L[j] := List.getElem?_eq_getElem (by omega)
    have gi := its_get L i
    have gj := its_get L j
    rw [hi'] at gi
    rw [hj'] at gj
    refine (swap_cells g n c i j L[i].1 L[i].2 L[j].1 L[j].2 w hi hj hlim (by rw [hg.cell, hget _ (by omega)]; exact gi.1) (by rw [hg.cell, hget _ (by omega)]; exact gi.2) (by rw [hg.cell, hget _ (by omega)]; exact gj.1) (by rw [hg.cell, hget _ (by omega)]; exact gj.2)
      (hg.frozen _) (hg.frozen _) (hg.frozen _) (hg.frozen _)).mono ?_
    rintro e w' ⟨rfl, rfl⟩
    have hsw : swapL L i j = (L.set i (L[j].1, L[j].2)).set j (L[i].1, L[i].2) := by
      unfold swapL
      rw [at0_of hi', at0_of hj']
    have hblk : Blk (swapW w g i j L[i].1 L[i].2 L[j].1 L[j].2) g 28 ((((cur.set (i * 2) (.int .i64 L[j].1)).set (i * 2 + 1) (.int .i64 L[j].2)).set (j * 2) (.int .i64 L[i].1)).set (j * 2 + 1) (.int .i64 L[i].2)) := by
      have h1 := blk_set hg (i * 2) (.int .i64 L[j].1)
      have h2 := blk_set h1 (i * 2 + 1) (.int .i64 L[j].2)
      have h3 := blk_set h2 (j * 2) (.int .i64 L[i].1)
      have h4 := blk_set h3 (j * 2 + 1) (.int .i64 L[i].2)
      have e0 : ∀ (l : List Value) (k : Nat) (u : Value), l.toArray.setIfInBounds k u = (l.set k u).toArray := fun l k u => by simp
      rw [e0, e0, e0, e0] at h4
      exact h4
    refine ⟨rfl, ?_, ?_⟩
    · have hm := own_mk (n := n) (sz := 2) hb hblk hnc hcm (by simpa using hcl)
      rw [List.take_set, List.take_set, List.take_set, List.take_set, ht, its_set, its_set, ← hsw] at hm
      exact hm
    · have hs : ∀ (w : World) k u, w.grownBy (w.setCell ⟨g, k, none⟩ u) (some g) := fun w k u => ⟨rfl, rfl, rfl, by simp [World.setCell], fun q _ hq => Below.heap_setCell w _ u q (fun e => hq (by rw [e]))⟩
      exact grown_drew (grown_trans (grown_trans (grown_trans (hs _ _ _) (hs _ _ _)) (hs _ _ _)) (hs _ _ _))
end Go.Proofs.Ytefeedpeiiaanaa
