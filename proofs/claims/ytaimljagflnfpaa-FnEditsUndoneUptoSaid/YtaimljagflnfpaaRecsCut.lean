/- Parts of slices of records. No statement of the seat is proved here. -/
import Derived.Test.YtaimljagflnfpaaRowsEq
namespace Go.Proofs.Ytaimljagflnfpaa
open Go.RowKit

section
variable {α : Type} {cell : α → Value → List Value} {lst : α → List Int} {sz : Nat}
theorem recCells_append (D D' : List α) (vs vs' : List Value) (h : vs.length = D.length) : recCells cell (D ++ D') (vs ++ vs') = recCells cell D vs ++ recCells cell D' vs' := by
  induction D generalizing vs with
  | nil =>
    cases vs with
    | nil => rfl
    | cons v vs => simp at h
  | cons e D ih =>
    cases vs with
    | nil => simp at h
    | cons u vs => simp only [List.cons_append, recCells, ih vs (by simpa using h), List.append_assoc]
theorem recCells_cut (hc : ∀ d v, (cell d v).length = sz) (D : List α) (vs : List Value) (h : vs.length = D.length) (k : Nat) (hk : k ≤ D.length) : (recCells cell D vs).take (k * sz) = recCells cell (D.take k) (vs.take k) ∧ (recCells cell D vs).drop (k * sz) = recCells cell (D.drop k) (vs.drop k) := by
  have h1 : (vs.take k).length = (D.take k).length := by rw [List.length_take, List.length_take, h]
  have e := recCells_append (cell := cell) (D.take k) (D.drop k) (vs.take k) (vs.drop k) h1
  rw [List.take_append_drop, List.take_append_drop] at e
  have hl := recCells_length hc (D.take k) (vs.take k) h1
  rw [List.length_take, Nat.min_eq_left hk] at hl
  rw [e]
  exact ⟨List.take_left' hl, List.drop_left' hl⟩
theorem Recs.head {w : World} {A : Option Addr} {n c : Nat} {D : List α} (hc : ∀ d v, (cell d v).length = sz) (h0 : 0 < sz) (h : Recs cell lst sz w A n c D) {k : Nat} (hk : k ≤ n) : Recs cell lst sz w A k c (D.take k) := by
  have hn := h.len hc h0
  obtain ⟨vs, hl, hr, hi⟩ := h
  have h1 := hr.head hk
  rw [(recCells_cut hc D vs hl k (by omega)).1] at h1
  refine ⟨vs.take k, by rw [List.length_take, List.length_take, hl], h1, fun i d hd => ?_⟩
  have hik : i < k := by
    have := (List.getElem?_eq_some_iff.1 hd).1
    rw [List.length_take] at this; omega
  rw [List.getElem?_take_of_lt hik] at hd ⊢
  exact hi i d hd
theorem Recs.tail {w : World} {A : Option Addr} {n c : Nat} {D : List α} (hc : ∀ d v, (cell d v).length = sz) (h0 : 0 < sz) (h : Recs cell lst sz w A n c D) {k : Nat} (hk : k ≤ n) : Recs cell lst sz w (if c = k then A else A.map (·.add (k * sz))) (n - k) (c - k) (D.drop k) := by
  have hn := h.len hc h0
  obtain ⟨vs, hl, hr, hi⟩ := h
  have h1 := hr.tail hk
  rw [(recCells_cut hc D vs hl k (by omega)).2] at h1
  refine ⟨vs.drop k, by rw [List.length_drop, List.length_drop, hl], h1, fun i d hd => ?_⟩
  rw [List.getElem?_drop] at hd ⊢
  exact hi _ d hd
end
theorem edts_cap {w : World} {A : Option Addr} {n c : Nat} {E : List Edt} (h : Edts w A n c E) : n ≤ c ∧ c ≤ maxLen := by
  obtain ⟨vs, _, hr, _⟩ := h
  exact ⟨hr.le, hr.cap⟩
theorem erows_cap {w : World} {A : Option Addr} {n c : Nat} {D : List ERow} (h : ERows w A n c D) : n ≤ c ∧ c ≤ maxLen := by
  obtain ⟨vs, _, hr, _⟩ := h
  exact ⟨hr.le, hr.cap⟩
end Go.Proofs.Ytaimljagflnfpaa
