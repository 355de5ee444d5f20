/- Edits that insert, delete and replace and do not panic, over a longer list; no program in sight. No statement of the seat is proved here. -/
import Derived.Test.YtaimljagflnfpaaCommutePlain
namespace Go.Proofs.Ytaimljagflnfpaa

/-- An edit at places, that does not panic. -/
def okE (l : List Int) (e : Edt) : Bool := !outP l e && decide (0 ≤ e.1) && decide (e.1 ≤ 2)
def placeS (st : List Edt × List Int) (e : Edt) : List Edt × List Int := if okE st.2 e = true then (st.1 ++ [e], stepP st.2 e) else st
def placedP (xs : List Int) (T : List Edt) : List Edt × List Int := T.foldl placeS ([], xs)
theorem placedP_snoc (xs : List Int) (T : List Edt) (e : Edt) : placedP xs (T ++ [e]) = placeS (placedP xs T) e := by
  unfold placedP
  rw [List.foldl_append]
  rfl
def AllOk (l : List Int) : List Edt → Prop
  | [] => True
  | e :: T => okE l e = true ∧ AllOk (stepP l e) T
theorem allOk_snoc (l : List Int) (T : List Edt) (e : Edt) : AllOk l (T ++ [e]) ↔ AllOk l T ∧ okE (eend l T) e = true := by
  induction T generalizing l with
  | nil => simp [AllOk, eend]
  | cons a T ih =>
    simp only [List.cons_append, AllOk, eend, ih]
    exact and_assoc.symm
/-- A list from whose end on one looks back. -/
theorem snoc_ind {α : Type} {p : List α → Prop} (h0 : p []) (h1 : ∀ T e, p T → p (T ++ [e])) : ∀ l, p l := by
  have : ∀ (n : Nat) (l : List α), l.length = n → p l := by
    intro n
    induction n with
    | zero => intro l hl; rw [List.eq_nil_of_length_eq_zero hl]; exact h0
    | succ n ih =>
      intro l hl
      have hne : l ≠ [] := fun h => by rw [h] at hl; simp at hl
      rw [← List.dropLast_concat_getLast hne]
      exact h1 _ _ (ih _ (by rw [List.length_dropLast]; omega))
  exact fun l => this l.length l rfl
theorem placed_ok (xs : List Int) (T : List Edt) : AllOk xs (placedP xs T).1 ∧ eend xs (placedP xs T).1 = (placedP xs T).2 ∧ evals (placedP xs T).1 ≤ evals T ∧ (placedP xs T).1.length ≤ T.length := by
  induction T using snoc_ind with
  | h0 => exact ⟨trivial, rfl, Nat.le_refl _, Nat.le_refl _⟩
  | h1 T e ih =>
    rw [placedP_snoc, evals_append, List.length_append]
    unfold placeS
    split
    · rename_i h
      refine ⟨(allOk_snoc _ _ _).2 ⟨ih.1, by rw [ih.2.1]; exact h⟩, ?_, ?_, ?_⟩
      · rw [eend_snoc, ih.2.1]
      · rw [evals_append]; simp only [evals]; have := ih.2.2.1; omega
      · rw [List.length_append]; have := ih.2.2.2; simp; omega
    · exact ⟨ih.1, ih.2.1, by have := ih.2.2.1; omega, by have := ih.2.2.2; omega⟩
/-- What such an edit does: a part in the middle is replaced. -/
theorem okE_parts {l : List Int} {e : Edt} (h : okE l e = true) : ∃ a b c vs, l = a ++ b ++ c ∧ stepP l e = a ++ vs ++ c ∧ e.2.1 = a.length ∧ (e.1 = 0 ∨ e.2.2.1 = (a.length : Int) + b.length) ∧
    (∀ (p q : List Int) (m : Edt), m.1 = e.1 → m.2.1 = (p.length : Int) + a.length → m.2.2.2 = e.2.2.2 → (e.1 ≠ 0 → m.2.2.1 = (p.length : Int) + a.length + b.length) → stepP (p ++ (a ++ b ++ c) ++ q) m = p ++ (a ++ vs ++ c) ++ q) := by
  obtain ⟨op, i, j, vs⟩ := e
  unfold okE at h
  simp only [Bool.and_eq_true, decide_eq_true_eq, Bool.not_eq_true'] at h
  obtain ⟨⟨h1, h2⟩, h3⟩ := h
  have key : ∀ (i' j' : Int) (us : List Int), editP l (op, i, j, vs) = cutP l i' j' us → (∀ (L : List Int) (m : Edt) (J : Int), m.1 = op → m.2.2.2 = vs → (op ≠ 0 → m.2.2.1 = J) → (op = 0 → m.2.1 = J) → editP L m = cutP L m.2.1 J us) → i' = i → (op = 0 ∨ j' = j) → (op = 0 → j' = i) →
      ∃ a b c us, l = a ++ b ++ c ∧ stepP l (op, i, j, vs) = a ++ us ++ c ∧ i = a.length ∧ (op = 0 ∨ j = (a.length : Int) + b.length) ∧
      (∀ (p q : List Int) (m : Edt), m.1 = op → m.2.1 = (p.length : Int) + a.length → m.2.2.2 = vs → (op ≠ 0 → m.2.2.1 = (p.length : Int) + a.length + b.length) → stepP (p ++ (a ++ b ++ c) ++ q) m = p ++ (a ++ us ++ c) ++ q) := by
    intro i' j' us he hm hi hj hj0
    have hc : 0 ≤ i' ∧ i' ≤ j' ∧ j' ≤ (l.length : Int) := by
      unfold outP at h1
      rw [he] at h1
      unfold cutP at h1
      split at h1
      · assumption
      · cases h1
    obtain ⟨i0, rfl⟩ := Int.eq_ofNat_of_zero_le hc.1
    obtain ⟨j0, rfl⟩ := Int.eq_ofNat_of_zero_le (Int.le_trans hc.1 hc.2.1)
    obtain ⟨a, b, c, rfl, ha, hb⟩ := parts2 l (i := i0) (j := j0) (by omega) (by omega)
    refine ⟨a, b, c, us, rfl, ?_, by omega, ?_, ?_⟩
    · exact stepP_of (he.trans (cutP_parts rfl (by omega) (by omega)))
    · rcases hj with h | h
      · exact .inl h
      · exact .inr (by omega)
    · intro p q m e1 e2 e3 e4
      refine stepP_of ((hm _ m ((p.length : Int) + a.length + b.length) e1 e3 e4 (fun h0 => by have := hj0 h0; omega)).trans ?_)
      rw [cutP_parts (a := p ++ a) (b := b) (c := c ++ q) (by simp) (by simp only [List.length_append]; omega) (by simp only [List.length_append]; omega)]
      simp
  have hop : op = 0 ∨ op = 1 ∨ op = 2 := by omega
  rcases hop with rfl | rfl | rfl
  · obtain ⟨a, b, c, us, g1, g2, g3, g4, g5⟩ := key i i vs (editP_0 l vs i j) (fun L m J e1 e2 _ e4 => by
      obtain ⟨mo, mi, mj, mv⟩ := m
      simp only at e1 e2 e4 ⊢
      subst e1 e2
      rw [editP_0, ← e4 trivial]) rfl (.inl rfl) (fun _ => rfl)
    exact ⟨a, b, c, us, g1, g2, g3, g4, g5⟩
  · obtain ⟨a, b, c, us, g1, g2, g3, g4, g5⟩ := key i j [] (editP_1 l vs i j) (fun L m J e1 e2 e3 _ => by
      obtain ⟨mo, mi, mj, mv⟩ := m
      simp only at e1 e2 e3 ⊢
      subst e1 e2
      rw [editP_1, e3 (by decide)]) rfl (.inr rfl) (fun h => absurd h (by decide))
    exact ⟨a, b, c, us, g1, g2, g3, g4, g5⟩
  · obtain ⟨a, b, c, us, g1, g2, g3, g4, g5⟩ := key i j vs (editP_2 l vs i j) (fun L m J e1 e2 e3 _ => by
      obtain ⟨mo, mi, mj, mv⟩ := m
      simp only at e1 e2 e3 ⊢
      subst e1 e2
      rw [editP_2, e3 (by decide)]) rfl (.inr rfl) (fun h => absurd h (by decide))
    exact ⟨a, b, c, us, g1, g2, g3, g4, g5⟩

/-- The same edits, their places moved by a number. -/
def MoveE (n : Int) (e m : Edt) : Prop := m.1 = e.1 ∧ m.2.1 = e.2.1 + n ∧ m.2.2.2 = e.2.2.2 ∧ (e.1 ≠ 0 → m.2.2.1 = e.2.2.1 + n)
def Moved (n : Int) : List Edt → List Edt → Prop
  | [], [] => True
  | e :: T, m :: U => MoveE n e m ∧ Moved n T U
  | _, _ => False
theorem moved_snoc {n : Int} {T U : List Edt} {e m : Edt} (h : Moved n T U) (hm : MoveE n e m) : Moved n (T ++ [e]) (U ++ [m]) := by
  induction T generalizing U with
  | nil =>
    cases U with
    | nil => exact ⟨hm, trivial⟩
    | cons u U => exact h.elim
  | cons a T ih =>
    cases U with
    | nil => exact h.elim
    | cons u U => exact ⟨h.1, ih h.2⟩
theorem moved_evals {n : Int} {T U : List Edt} (h : Moved n T U) : evals U = evals T ∧ U.length = T.length := by
  induction T generalizing U with
  | nil =>
    cases U with
    | nil => exact ⟨rfl, rfl⟩
    | cons u U => exact h.elim
  | cons a T ih =>
    cases U with
    | nil => exact h.elim
    | cons u U =>
      have h1 := ih h.2
      simp only [evals, List.length_cons, h1.1, h1.2, h.1.2.2.1]
      exact ⟨trivial, trivial⟩
theorem behind_plain (xs more : List Int) (T : List Edt) (h : AllOk xs T) : eend (xs ++ more) T = eend xs T ++ more := by
  induction T generalizing xs with
  | nil => rfl
  | cons e T ih =>
    obtain ⟨a, b, c, vs, h1, h2, h3, h4, h5⟩ := okE_parts h.1
    have h6 := h5 [] more e rfl (by simp [h3]) rfl (fun h => by
      rcases h4 with h4 | h4
      · exact absurd h4 h
      · simp [h4])
    simp only [List.nil_append] at h6
    rw [← h1, ← h2] at h6
    simp only [eend]
    rw [h6]
    exact ih _ h.2
theorem ahead_plain (xs ahead : List Int) (T U : List Edt) (h : AllOk xs T) (hm : Moved (ahead.length : Int) T U) : eend (ahead ++ xs) U = ahead ++ eend xs T := by
  induction T generalizing xs U with
  | nil =>
    cases U with
    | nil => rfl
    | cons u U => exact hm.elim
  | cons e T ih =>
    cases U with
    | nil => exact hm.elim
    | cons u U =>
      obtain ⟨a, b, c, vs, h1, h2, h3, h4, h5⟩ := okE_parts h.1
      obtain ⟨m1, m2, m3, m4⟩ := hm.1
      have h6 := h5 ahead [] u m1 (by omega) m3 (fun h => by
        rcases h4 with h4 | h4
        · exact absurd h4 h
        · have := m4 h; omega)
      simp only [List.append_nil] at h6
      rw [← h1, ← h2] at h6
      simp only [eend]
      rw [h6]
      exact ih _ _ h.2 hm.2
end Go.Proofs.Ytaimljagflnfpaa
