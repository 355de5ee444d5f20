/- Edits of a list of integers by their definition, and what they obey; no program in sight. No statement of the seat is proved here. -/
namespace Go.Proofs.Ytaimljagflnfpaa

/-- Of equal numbers that follow one another the first one alone; p is the number ahead. -/
def compO (p : Option Int) : List Int → List Int
  | [] => []
  | x :: r => if p = some x then compO p r else x :: compO (some x) r
def lastO (p : Option Int) : List Int → Option Int
  | [] => p
  | x :: r => lastO (some x) r
theorem lastO_append (p : Option Int) (l m : List Int) : lastO p (l ++ m) = lastO (lastO p l) m := by
  induction l generalizing p with
  | nil => rfl
  | cons x r ih => exact ih (some x)
theorem compO_append (p : Option Int) (l m : List Int) : compO p (l ++ m) = compO p l ++ compO (lastO p l) m := by
  induction l generalizing p with
  | nil => rfl
  | cons x r ih =>
    simp only [List.cons_append, compO, lastO]
    by_cases h : p = some x
    · rw [if_pos h, if_pos h, ih, h]
    · rw [if_neg h, if_neg h, ih, List.cons_append]
theorem compO_same (p : Option Int) (l : List Int) : compO p (compO p l) = compO p l := by
  induction l generalizing p with
  | nil => rfl
  | cons x r ih =>
    simp only [compO]
    by_cases h : p = some x
    · rw [if_pos h]; exact ih p
    · rw [if_neg h, compO, if_neg h, ih]
theorem compO_none (p : Option Int) (l : List Int) : compO p (compO none l) = compO p l := by
  cases l with
  | nil => rfl
  | cons x r =>
    simp only [compO]
    rw [if_neg (by simp), compO]
    by_cases h : p = some x
    · subst h; rw [if_pos rfl, if_pos rfl, compO_same]
    · rw [if_neg h, if_neg h, compO_same]
theorem lastO_same (p : Option Int) (l : List Int) : lastO p (compO p l) = lastO p l := by
  induction l generalizing p with
  | nil => rfl
  | cons x r ih =>
    simp only [compO, lastO]
    by_cases h : p = some x
    · rw [if_pos h, ih, h]
    · rw [if_neg h, lastO, ih]
theorem lastO_none (p : Option Int) (l : List Int) : lastO p (compO none l) = lastO p l := by
  cases l with
  | nil => rfl
  | cons x r =>
    simp only [compO]
    rw [if_neg (by simp)]
    simp only [lastO]
    exact lastO_same _ _
/-- What is compacted part by part and then as a whole. -/
theorem compO_parts (p : Option Int) (l m : List Int) : compO p (compO none l ++ m) = compO p (l ++ m) := by
  rw [compO_append, compO_append, compO_none, lastO_none]
theorem compO_length (p : Option Int) (l : List Int) : (compO p l).length ≤ l.length := by
  induction l generalizing p with
  | nil => simp [compO]
  | cons x r ih =>
    simp only [compO]
    split
    · have := ih p; simp; omega
    · have := ih (some x); simp; omega
theorem lastO_snoc (p : Option Int) (l : List Int) (x : Int) : lastO p (l ++ [x]) = some x := by rw [lastO_append]; rfl
theorem lastO_get (p : Option Int) {l : List Int} {k : Nat} (h : l.length = k + 1) : lastO p l = l[k]? := by
  induction l generalizing p k with
  | nil => simp at h
  | cons x r ih =>
    cases r with
    | nil =>
      have : k = 0 := by simpa using h.symm
      subst this
      rfl
    | cons y t =>
      obtain ⟨j, rfl⟩ : ∃ j, k = j + 1 := ⟨k - 1, by simp at h; omega⟩
      have := ih (some x) (k := j) (by simpa using h)
      simp only [lastO] at this ⊢
      rw [this]
      simp
theorem compO_snoc (l : List Int) (x : Int) : compO none (l ++ [x]) = compO none l ++ (if lastO none l = some x then [] else [x]) := by
  rw [compO_append]
  congr 1
theorem compO_ne (l : List Int) (h : l ≠ []) : compO none l ≠ [] := by
  cases l with
  | nil => exact absurd rfl h
  | cons x r => simp [compO]
theorem compO_joined (x y : List Int) : compO none (x ++ y) = compO none x ++ (if x ≠ [] ∧ y ≠ [] ∧ lastO none x = y.head? then (compO none y).tail else compO none y) := by
  rw [compO_append]
  congr 1
  cases y with
  | nil => simp [compO]
  | cons b t =>
    simp only [compO, List.head?_cons, if_neg (show ¬ (none : Option Int) = some b by simp), List.tail_cons]
    cases x with
    | nil => simp [lastO]
    | cons a s =>
      by_cases h : lastO none (a :: s) = some b
      · rw [if_pos h, if_pos ⟨by simp, by simp, h⟩, h]
      · rw [if_neg h, if_neg (fun hh => h hh.2.2)]
theorem compO_map (f : Int → Int) (hf : ∀ a b, f a = f b → a = b) (p : Option Int) (l : List Int) : compO (p.map f) (l.map f) = (compO p l).map f := by
  induction l generalizing p with
  | nil => rfl
  | cons x r ih =>
    simp only [List.map_cons, compO]
    have e : (p.map f = some (f x)) ↔ (p = some x) := by
      cases p with
      | none => simp
      | some a => simp only [Option.map_some, Option.some.injEq]; exact ⟨hf a x, fun h => by rw [h]⟩
    by_cases h : p = some x
    · rw [if_pos h, if_pos (e.2 h), ih]
    · rw [if_neg h, if_neg (fun hh => h (e.1 hh)), List.map_cons, ← ih (some x)]
      rfl

/-- An edit: its kind, from, to, values. -/
abbrev Edt := Int × Int × Int × List Int
/-- A part of a list replaced; none: it panics. -/
def cutP (l : List Int) (i j : Int) (vs : List Int) : Option (List Int) :=
  if 0 ≤ i ∧ i ≤ j ∧ j ≤ l.length then some (l.take i.toNat ++ vs ++ l.drop j.toNat) else none
/-- An edit by its definition; none: it panics. -/
def editP (l : List Int) (e : Edt) : Option (List Int) :=
  if e.1 = 0 then cutP l e.2.1 e.2.1 e.2.2.2
  else if e.1 = 1 then cutP l e.2.1 e.2.2.1 []
  else if e.1 = 2 then cutP l e.2.1 e.2.2.1 e.2.2.2
  else if e.1 = 3 then some (compO none l)
  else if e.1 = 4 then some (l ++ e.2.2.2)
  else some l
theorem cutP_some {l vs : List Int} {i j : Nat} (h : i ≤ j) (h' : j ≤ l.length) : cutP l (i : Int) (j : Int) vs = some (l.take i ++ vs ++ l.drop j) := by
  unfold cutP
  rw [if_pos ⟨by omega, by omega, by omega⟩, Int.toNat_natCast, Int.toNat_natCast]
theorem cutP_none {l vs : List Int} {i j : Int} (h : ¬ (0 ≤ i ∧ i ≤ j ∧ j ≤ (l.length : Int))) : cutP l i j vs = none := if_neg h
theorem editP_0 (l vs : List Int) (i j : Int) : editP l (0, i, j, vs) = cutP l i i vs := by simp [editP]
theorem editP_1 (l vs : List Int) (i j : Int) : editP l (1, i, j, vs) = cutP l i j [] := by simp [editP]
theorem editP_2 (l vs : List Int) (i j : Int) : editP l (2, i, j, vs) = cutP l i j vs := by simp [editP]
theorem editP_3 (l vs : List Int) (i j : Int) : editP l (3, i, j, vs) = some (compO none l) := by simp [editP]
theorem editP_4 (l vs : List Int) (i j : Int) : editP l (4, i, j, vs) = some (l ++ vs) := by simp [editP]
def stepP (l : List Int) (e : Edt) : List Int := (editP l e).getD l
def outP (l : List Int) (e : Edt) : Bool := (editP l e).isNone
/-- The rows behind the edits of a script. -/
def erows (l : List Int) : List Edt → List (Bool × List Int)
  | [] => []
  | e :: T => (outP l e, stepP l e) :: erows (stepP l e) T
def eend (l : List Int) : List Edt → List Int
  | [] => l
  | e :: T => eend (stepP l e) T
theorem eend_append (l : List Int) (T U : List Edt) : eend l (T ++ U) = eend (eend l T) U := by
  induction T generalizing l with
  | nil => rfl
  | cons a T ih => exact ih _
theorem erows_append (l : List Int) (T U : List Edt) : erows l (T ++ U) = erows l T ++ erows (eend l T) U := by
  induction T generalizing l with
  | nil => rfl
  | cons a T ih => simp only [List.cons_append, erows, eend, ih]
theorem erows_snoc (l : List Int) (T : List Edt) (e : Edt) : erows l (T ++ [e]) = erows l T ++ [(outP (eend l T) e, stepP (eend l T) e)] := erows_append l T [e]
theorem eend_snoc (l : List Int) (T : List Edt) (e : Edt) : eend l (T ++ [e]) = stepP (eend l T) e := eend_append l T [e]
theorem erows_length (l : List Int) (T : List Edt) : (erows l T).length = T.length := by
  induction T generalizing l with
  | nil => rfl
  | cons a T ih => simp [erows, ih]
theorem cutP_length {l r : List Int} {i j : Int} {vs : List Int} (h : cutP l i j vs = some r) : (r.length : Int) = l.length + vs.length - (j - i) := by
  unfold cutP at h
  split at h
  · injection h with h
    subst h
    simp only [List.length_append, List.length_take, List.length_drop]
    omega
  · cases h
theorem stepP_length (l : List Int) (e : Edt) : (stepP l e).length ≤ l.length + e.2.2.2.length := by
  have hc : ∀ i j vs, vs.length ≤ e.2.2.2.length → ((cutP l i j vs).getD l).length ≤ l.length + e.2.2.2.length := by
    intro i j vs hv
    unfold cutP
    split
    · simp only [Option.getD_some, List.length_append, List.length_take, List.length_drop]; omega
    · simp
  unfold stepP editP
  split
  · exact hc _ _ _ (Nat.le_refl _)
  · split
    · exact hc _ _ _ (by simp)
    · split
      · exact hc _ _ _ (Nat.le_refl _)
      · split
        · have := compO_length none l; simp; omega
        · split
          · simp
          · simp
/-- How many values a script's edits hold. -/
def evals : List Edt → Nat
  | [] => 0
  | e :: T => e.2.2.2.length + evals T
theorem evals_append (T U : List Edt) : evals (T ++ U) = evals T + evals U := by
  induction T with
  | nil => simp [evals]
  | cons a T ih => simp only [List.cons_append, evals, ih]; omega
theorem evals_take (T : List Edt) (k : Nat) : evals (T.take k) ≤ evals T := by
  have := evals_append (T.take k) (T.drop k)
  rw [List.take_append_drop] at this
  omega
theorem eend_length (l : List Int) (T : List Edt) : (eend l T).length ≤ l.length + evals T := by
  induction T generalizing l with
  | nil => simp [eend]
  | cons a T ih => have h1 := ih (stepP l a); have h2 := stepP_length l a; simp only [eend, evals]; omega
theorem erows_last (l : List Int) (T : List Edt) (h : T ≠ []) : ∃ b, (erows l T)[T.length - 1]? = some (b, eend l T) := by
  induction T generalizing l with
  | nil => exact absurd rfl h
  | cons a T ih =>
    cases T with
    | nil => exact ⟨_, rfl⟩
    | cons b T =>
      obtain ⟨c, hc⟩ := ih (stepP l a) (by simp)
      have e1 : (erows l (a :: b :: T))[(a :: b :: T).length - 1]? = (erows (stepP l a) (b :: T))[(b :: T).length - 1]? := by simp [erows]
      exact ⟨c, e1.trans hc⟩
theorem erows_get (l : List Int) (T : List Edt) (k : Nat) (e : Edt) (h : T[k]? = some e) : (erows l T)[k]? = some (outP (eend l (T.take k)) e, stepP (eend l (T.take k)) e) ∧ eend l (T.take (k + 1)) = stepP (eend l (T.take k)) e := by
  induction T generalizing l k with
  | nil => simp at h
  | cons a T ih =>
    cases k with
    | zero =>
      simp at h
      subst h
      exact ⟨rfl, rfl⟩
    | succ k => exact ih (stepP l a) k (by simpa using h)
end Go.Proofs.Ytaimljagflnfpaa
