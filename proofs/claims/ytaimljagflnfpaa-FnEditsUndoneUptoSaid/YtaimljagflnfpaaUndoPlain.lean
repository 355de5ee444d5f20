/- Edits are undone one by one in the opposite order; no program in sight. No statement of the seat is proved here. -/
import Derived.Test.YtaimljagflnfpaaCommutePlain
namespace Go.Proofs.Ytaimljagflnfpaa

/-- What undoes an edit of the list l. -/
def undoP (l : List Int) (e : Edt) : Edt :=
  if outP l e = true then (-1, 0, 0, [])
  else if e.1 = 0 then (1, e.2.1, e.2.1 + e.2.2.2.length, [])
  else if e.1 = 1 then (0, e.2.1, 0, (l.take e.2.2.1.toNat).drop e.2.1.toNat)
  else if e.1 = 2 then (2, e.2.1, e.2.1 + e.2.2.2.length, (l.take e.2.2.1.toNat).drop e.2.1.toNat)
  else if e.1 = 3 then (2, 0, (stepP l e).length, l)
  else if e.1 = 4 then (1, l.length, (stepP l e).length, [])
  else (-1, 0, 0, [])
theorem undo_of {l r : List Int} {e : Edt} (h : editP l e = some r) : stepP l e = r ∧ outP l e = false := ⟨stepP_of h, by unfold outP; rw [h]; rfl⟩
theorem editP_m (l vs : List Int) (i j : Int) : editP l (-1, i, j, vs) = some l := by simp [editP]
theorem cutP_cond {l vs : List Int} {i j : Int} (h : (cutP l i j vs).isNone = false) : 0 ≤ i ∧ i ≤ j ∧ j ≤ (l.length : Int) := by
  unfold cutP at h
  split at h
  · assumption
  · cases h
/-- An edit and what undoes it. -/
theorem undo_plain (l : List Int) (e : Edt) : stepP (stepP l e) (undoP l e) = l ∧ outP (stepP l e) (undoP l e) = false := by
  obtain ⟨op, i, j, vs⟩ := e
  by_cases ho : outP l (op, i, j, vs) = true
  · have hs : stepP l (op, i, j, vs) = l := by
      unfold outP at ho
      unfold stepP
      cases hh : editP l (op, i, j, vs) with
      | none => rfl
      | some r => rw [hh] at ho; cases ho
    unfold undoP
    rw [if_pos ho, hs]
    exact undo_of (editP_m l [] 0 0)
  · have hf : outP l (op, i, j, vs) = false := by simpa using ho
    unfold undoP
    rw [if_neg ho]
    simp only
    by_cases h0 : op = 0
    · subst h0
      rw [if_pos rfl]
      have hc := cutP_cond (l := l) (vs := vs) (i := i) (j := i) (by rw [← editP_0 l vs i j]; exact hf)
      obtain ⟨i0, rfl⟩ := Int.eq_ofNat_of_zero_le hc.1
      obtain ⟨a, b, c, rfl, ha, hb⟩ := parts2 l (i := i0) (j := i0) (Nat.le_refl _) (by omega)
      obtain rfl : b = [] := List.eq_nil_of_length_eq_zero (by omega)
      rw [stepP_of ((editP_0 _ vs _ j).trans (cutP_parts (a := a) (b := []) (c := c) rfl (by omega) (by simp; omega)))]
      exact undo_of ((editP_1 _ _ _ _).trans (cutP_parts (a := a) (b := vs) (c := c) (by simp) (by omega) (by omega)))
    · rw [if_neg h0]
      by_cases h1 : op = 1
      · subst h1
        rw [if_pos rfl]
        have hc := cutP_cond (l := l) (vs := []) (i := i) (j := j) (by rw [← editP_1 l vs i j]; exact hf)
        obtain ⟨i0, rfl⟩ := Int.eq_ofNat_of_zero_le hc.1
        obtain ⟨j0, rfl⟩ := Int.eq_ofNat_of_zero_le (Int.le_trans hc.1 hc.2.1)
        obtain ⟨a, b, c, rfl, ha, hb⟩ := parts2 l (i := i0) (j := j0) (by omega) (by omega)
        have hp : ((a ++ b ++ c).take ((j0 : Int)).toNat).drop ((i0 : Int)).toNat = b := by
          rw [Int.toNat_natCast, Int.toNat_natCast, List.take_left' (by rw [List.length_append]; omega), List.drop_left' ha]
        rw [hp, stepP_of ((editP_1 _ vs _ _).trans (cutP_parts (a := a) (b := b) (c := c) rfl (by omega) (by omega)))]
        exact undo_of ((editP_0 _ _ _ _).trans (cutP_parts (a := a) (b := []) (c := c) (by simp) (by omega) (by simp; omega)))
      · rw [if_neg h1]
        by_cases h2 : op = 2
        · subst h2
          rw [if_pos rfl]
          have hc := cutP_cond (l := l) (vs := vs) (i := i) (j := j) (by rw [← editP_2 l vs i j]; exact hf)
          obtain ⟨i0, rfl⟩ := Int.eq_ofNat_of_zero_le hc.1
          obtain ⟨j0, rfl⟩ := Int.eq_ofNat_of_zero_le (Int.le_trans hc.1 hc.2.1)
          obtain ⟨a, b, c, rfl, ha, hb⟩ := parts2 l (i := i0) (j := j0) (by omega) (by omega)
          have hp : ((a ++ b ++ c).take ((j0 : Int)).toNat).drop ((i0 : Int)).toNat = b := by
            rw [Int.toNat_natCast, Int.toNat_natCast, List.take_left' (by rw [List.length_append]; omega), List.drop_left' ha]
          rw [hp, stepP_of ((editP_2 _ vs _ _).trans (cutP_parts (a := a) (b := b) (c := c) rfl (by omega) (by omega)))]
          exact undo_of ((editP_2 _ _ _ _).trans (cutP_parts (a := a) (b := vs) (c := c) rfl (by omega) (by omega)))
        · rw [if_neg h2]
          by_cases h3 : op = 3
          · subst h3
            rw [if_pos rfl]
            have h := undo_of ((editP_2 (stepP l (3, i, j, vs)) l 0 ((stepP l (3, i, j, vs)).length : Int)).trans (cutP_parts (a := []) (b := stepP l (3, i, j, vs)) (c := []) (by simp) (by simp) (by simp)))
            simpa using h
          · rw [if_neg h3]
            by_cases h4 : op = 4
            · subst h4
              rw [if_pos rfl, stepP_of (editP_4 l vs i j)]
              have h := undo_of ((editP_1 (l ++ vs) [] (l.length : Int) ((l ++ vs).length : Int)).trans (cutP_parts (a := l) (b := vs) (c := []) (by simp) rfl (by simp)))
              simpa using h
            · rw [if_neg h4]
              have he : editP l (op, i, j, vs) = some l := by simp [editP, h0, h1, h2, h3, h4]
              rw [stepP_of he]
              exact undo_of (editP_m l [] 0 0)
/-- What undoes a script, from its end on. -/
def undos (l : List Int) : List Edt → List Edt
  | [] => []
  | e :: T => undos (stepP l e) T ++ [undoP l e]
theorem undos_length (l : List Int) (T : List Edt) : (undos l T).length = T.length := by
  induction T generalizing l with
  | nil => rfl
  | cons e T ih => simp [undos, ih]
theorem undos_plain (l : List Int) (T : List Edt) : eend (eend l T) (undos l T) = l ∧ erows (eend l T) (undos l T) = (List.range T.length).map fun m => (false, eend l (T.take (T.length - 1 - m))) := by
  induction T generalizing l with
  | nil => exact ⟨rfl, rfl⟩
  | cons e T ih =>
    obtain ⟨h1, h2⟩ := ih (stepP l e)
    obtain ⟨u1, u2⟩ := undo_plain l e
    simp only [eend, undos]
    refine ⟨by rw [eend_snoc, h1, u1], ?_⟩
    rw [erows_snoc, h1, h2, u1, u2, List.length_cons, List.range_succ, List.map_append]
    congr 1
    · refine List.map_congr_left fun m hm => ?_
      have := List.mem_range.1 hm
      have e1 : T.length + 1 - 1 - m = (T.length - 1 - m) + 1 := by omega
      rw [e1, List.take_succ_cons]
      rfl
    · simp [eend]
theorem undoP_size (l : List Int) (e : Edt) : (undoP l e).2.2.2.length ≤ l.length := by
  have hp : ((l.take e.2.2.1.toNat).drop e.2.1.toNat).length ≤ l.length := by rw [List.length_drop, List.length_take]; omega
  unfold undoP
  split
  · simp
  · split
    · simp
    · split
      · exact hp
      · split
        · exact hp
        · split
          · exact Nat.le_refl _
          · split <;> simp
theorem undos_evals (l : List Int) (T : List Edt) (B : Nat) (h : l.length + evals T ≤ B) : evals (undos l T) ≤ T.length * B := by
  induction T generalizing l with
  | nil => simp [undos, evals]
  | cons e T ih =>
    have h1 := undoP_size l e
    have h2 := stepP_length l e
    simp only [evals] at h
    have h3 := ih (stepP l e) (by omega)
    simp only [undos, evals_append, evals, List.length_cons, Nat.add_mul, Nat.one_mul]
    omega
theorem prod_bound {a b : Nat} (h : a + b ≤ 1048576) : a * b ≤ 274877906944 := by
  have key : ∀ a b : Nat, a ≤ 524288 → a + b ≤ 1048576 → a * b ≤ 274877906944 := by
    intro a b ha hab
    obtain ⟨d, hd⟩ : ∃ d, a + d = 524288 := ⟨524288 - a, by omega⟩
    have h1 : a * b ≤ a * (524288 + d) := Nat.mul_le_mul_left a (by omega)
    have h2 : (a + d) * 524288 = a * 524288 + d * 524288 := Nat.add_mul a d 524288
    have h3 : d * (a + d) = d * a + d * d := Nat.mul_add d a d
    have h4 : a * (524288 + d) = a * 524288 + a * d := Nat.mul_add a 524288 d
    have h5 : a * d = d * a := Nat.mul_comm a d
    rw [hd] at h2 h3
    omega
  rcases Nat.le_total a 524288 with h1 | h1
  · exact key a b h1 h
  · rw [Nat.mul_comm]; exact key b a (by omega) (by omega)
end Go.Proofs.Ytaimljagflnfpaa
