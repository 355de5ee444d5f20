/- Edits of numbers that are replaced by others, different ones by different ones; no program in sight. No statement of the seat is proved here. -/
import Derived.Test.YtaimljagflnfpaaEditPlain
namespace Go.Proofs.Ytaimljagflnfpaa

def mapE (g : Int → Int) (e : Edt) : Edt := (e.1, e.2.1, e.2.2.1, e.2.2.2.map g)
theorem cutP_map (g : Int → Int) (l vs : List Int) (i j : Int) : cutP (l.map g) i j (vs.map g) = (cutP l i j vs).map (List.map g) := by
  unfold cutP
  rw [List.length_map]
  split
  · simp [List.map_take, List.map_drop]
  · rfl
theorem editP_map (g : Int → Int) (hg : ∀ a b, g a = g b → a = b) (l : List Int) (e : Edt) : editP (l.map g) (mapE g e) = (editP l e).map (List.map g) := by
  unfold editP mapE
  simp only
  split
  · exact cutP_map g l _ _ _
  · split
    · exact cutP_map g l [] _ _
    · split
      · exact cutP_map g l _ _ _
      · split
        · have := compO_map g hg none l
          simpa using this
        · split
          · simp
          · simp
theorem stepP_map (g : Int → Int) (hg : ∀ a b, g a = g b → a = b) (l : List Int) (e : Edt) : stepP (l.map g) (mapE g e) = (stepP l e).map g ∧ outP (l.map g) (mapE g e) = outP l e := by
  unfold stepP outP
  rw [editP_map g hg]
  cases editP l e <;> simp
theorem erows_map (g : Int → Int) (hg : ∀ a b, g a = g b → a = b) (l : List Int) (T : List Edt) : erows (l.map g) (T.map (mapE g)) = (erows l T).map fun d => (d.1, d.2.map g) := by
  induction T generalizing l with
  | nil => rfl
  | cons e T ih =>
    simp only [List.map_cons, erows]
    rw [(stepP_map g hg l e).1, (stepP_map g hg l e).2, ih]
/-- What stands in the lists behind edits stood in the list, or in the edits' values. -/
theorem compO_mem (p : Option Int) (l : List Int) : ∀ x ∈ compO p l, x ∈ l := by
  induction l generalizing p with
  | nil => intro x hx; exact hx
  | cons y r ih =>
    intro x hx
    simp only [compO] at hx
    split at hx
    · exact List.mem_cons_of_mem _ (ih p x hx)
    · rcases List.mem_cons.1 hx with h | h
      · rw [h]; exact List.mem_cons_self
      · exact List.mem_cons_of_mem _ (ih _ x h)
theorem stepP_mem (l : List Int) (e : Edt) : ∀ x ∈ stepP l e, x ∈ l ∨ x ∈ e.2.2.2 := by
  have hc : ∀ i j vs, (∀ x ∈ vs, x ∈ e.2.2.2) → ∀ x ∈ (cutP l i j vs).getD l, x ∈ l ∨ x ∈ e.2.2.2 := by
    intro i j vs hv x hx
    unfold cutP at hx
    split at hx
    · simp only [Option.getD_some, List.mem_append] at hx
      rcases hx with (h | h) | h
      · exact .inl (List.mem_of_mem_take h)
      · exact .inr (hv x h)
      · exact .inl (List.mem_of_mem_drop h)
    · exact .inl hx
  intro x hx
  unfold stepP editP at hx
  split at hx
  · exact hc _ _ _ (fun x h => h) x hx
  · split at hx
    · exact hc _ _ _ (fun x h => by cases h) x hx
    · split at hx
      · exact hc _ _ _ (fun x h => h) x hx
      · split at hx
        · exact .inl (compO_mem none l x hx)
        · split at hx
          · rcases List.mem_append.1 hx with h | h
            · exact .inl h
            · exact .inr h
          · exact .inl hx
theorem erows_mem (P : Int → Prop) (l : List Int) (T : List Edt) (hl : ∀ x ∈ l, P x) (hT : ∀ e ∈ T, ∀ x ∈ e.2.2.2, P x) : ∀ d ∈ erows l T, ∀ x ∈ d.2, P x := by
  induction T generalizing l with
  | nil => intro d hd; cases hd
  | cons e T ih =>
    have hs : ∀ x ∈ stepP l e, P x := fun x hx => by
      rcases stepP_mem l e x hx with h | h
      · exact hl x h
      · exact hT e List.mem_cons_self x h
    intro d hd
    simp only [erows] at hd
    rcases List.mem_cons.1 hd with h | h
    · subst h; exact hs
    · exact ih (stepP l e) hs (fun e' he' => hT e' (List.mem_cons_of_mem _ he')) d h
end Go.Proofs.Ytaimljagflnfpaa
