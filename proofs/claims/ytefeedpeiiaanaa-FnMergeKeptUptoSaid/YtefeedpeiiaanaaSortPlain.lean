/- Plain: the order of items, and inserting one behind those that are not greater. No statement of the seat is proved here. -/
namespace Go.Proofs.Ytefeedpeiiaanaa

/-- a is not greater than b: by keys, then by tags. -/
def leP (a b : Int × Int) : Bool := decide (a.1 < b.1) || (decide (a.1 = b.1) && decide (a.2 ≤ b.2))
def insP (x : Int × Int) (l : List (Int × Int)) : List (Int × Int) := l.takeWhile (leP · x) ++ x :: l.dropWhile (leP · x)
def sortP (l : List (Int × Int)) : List (Int × Int) := l.foldl (fun acc x => insP x acc) []

theorem leP_iff (a b : Int × Int) : leP a b = true ↔ (a.1 < b.1 ∨ (a.1 = b.1 ∧ a.2 ≤ b.2)) := by simp [leP]
theorem leP_false (a b : Int × Int) : leP a b = false ↔ ¬ (a.1 < b.1 ∨ (a.1 = b.1 ∧ a.2 ≤ b.2)) := by rw [← leP_iff]; simp
theorem leP_refl (a : Int × Int) : leP a a = true := by rw [leP_iff]; omega
theorem leP_trans {a b c : Int × Int} (h : leP a b = true) (k : leP b c = true) : leP a c = true := by rw [leP_iff] at *; omega
theorem leP_total (a b : Int × Int) : leP a b = true ∨ leP b a = true := by simp only [leP_iff]; omega
theorem leP_anti {a b : Int × Int} (h : leP a b = true) (k : leP b a = true) : a = b := by
  rw [leP_iff] at *
  obtain ⟨a1, a2⟩ := a
  obtain ⟨b1, b2⟩ := b
  simp only [Prod.mk.injEq] at *
  omega
theorem insP_length (x : Int × Int) (l : List (Int × Int)) : (insP x l).length = l.length + 1 := by
  have h := congrArg List.length (List.takeWhile_append_dropWhile (p := (leP · x)) (l := l))
  simp only [List.length_append] at h
  simp only [insP, List.length_append, List.length_cons]
  omega
theorem insP_perm (x : Int × Int) (l : List (Int × Int)) : (insP x l).Perm (x :: l) := by
  unfold insP
  refine (List.perm_middle).trans ?_
  rw [List.takeWhile_append_dropWhile]
theorem sortP_snoc (l : List (Int × Int)) (x : Int × Int) : sortP (l ++ [x]) = insP x (sortP l) := by simp [sortP]
theorem foldl_ins_perm (l acc : List (Int × Int)) : (l.foldl (fun acc x => insP x acc) acc).Perm (l ++ acc) := by
  induction l generalizing acc with
  | nil => exact List.Perm.refl _
  | cons x l ih =>
    simp only [List.foldl_cons, List.cons_append]
    refine (ih _).trans ?_
    refine (List.Perm.append_left l (insP_perm x acc)).trans ?_
    exact List.perm_middle
theorem sortP_perm (l : List (Int × Int)) : (sortP l).Perm l := by
  have h := foldl_ins_perm l []
  rw [List.append_nil] at h
  exact h
theorem sortP_length (l : List (Int × Int)) : (sortP l).length = l.length := (sortP_perm l).length_eq

def Ord (l : List (Int × Int)) : Prop := l.Pairwise (fun a b => leP a b = true)
theorem mem_dropWhile_gt {x : Int × Int} {l : List (Int × Int)} (h : Ord l) : ∀ a ∈ l.dropWhile (leP · x), leP x a = true := by
  induction l with
  | nil => simp
  | cons y l ih =>
    intro a ha
    rw [List.dropWhile_cons] at ha
    split at ha
    · exact ih (List.Pairwise.of_cons h) a ha
    · rename_i hy
      have hxy : leP x y = true := (leP_total y x).resolve_left (by simpa using hy)
      rcases List.mem_cons.1 ha with rfl | hm
      · exact hxy
      · exact leP_trans hxy (List.rel_of_pairwise_cons h hm)
theorem mem_takeWhile_le {x : Int × Int} {l : List (Int × Int)} : ∀ a ∈ l.takeWhile (leP · x), leP a x = true := by
  induction l with
  | nil => simp
  | cons y l ih =>
    intro a ha
    rw [List.takeWhile_cons] at ha
    split at ha
    · rename_i hy
      rcases List.mem_cons.1 ha with rfl | hm
      · exact hy
      · exact ih a hm
    · simp at ha
theorem insP_ord {x : Int × Int} {l : List (Int × Int)} (h : Ord l) : Ord (insP x l) := by
  unfold insP Ord
  rw [List.pairwise_append]
  refine ⟨List.Pairwise.sublist (List.takeWhile_sublist _) h, ?_, ?_⟩
  · rw [List.pairwise_cons]
    exact ⟨mem_dropWhile_gt h, List.Pairwise.sublist (List.dropWhile_sublist _) h⟩
  · intro a ha b hb
    have hax := mem_takeWhile_le a ha
    rcases List.mem_cons.1 hb with rfl | hm
    · exact hax
    · exact leP_trans hax (mem_dropWhile_gt h b hm)
theorem foldl_ins_ord (l acc : List (Int × Int)) (h : Ord acc) : Ord (l.foldl (fun acc x => insP x acc) acc) := by
  induction l generalizing acc with
  | nil => exact h
  | cons x l ih => exact ih _ (insP_ord h)
theorem sortP_ord (l : List (Int × Int)) : Ord (sortP l) := foldl_ins_ord l [] List.Pairwise.nil
/-- Two lists in order with the same items are equal. -/
theorem ord_perm_eq {a b : List (Int × Int)} (ha : Ord a) (hb : Ord b) (h : a.Perm b) : a = b :=
  h.eq_of_pairwise (fun _ _ _ _ h1 h2 => leP_anti h1 h2) ha hb
theorem sortP_of_perm {a b : List (Int × Int)} (h : a.Perm b) : sortP a = sortP b :=
  ord_perm_eq (sortP_ord a) (sortP_ord b) (((sortP_perm a).trans h).trans (sortP_perm b).symm)
theorem sortP_of_ord {a : List (Int × Int)} (h : Ord a) : sortP a = a := ord_perm_eq (sortP_ord a) h (sortP_perm a)
theorem insP_of_ord {a b : List (Int × Int)} {x : Int × Int} (ha : Ord a) (hb : Ord b) (h : b.Perm (x :: a)) : insP x a = b :=
  ord_perm_eq (insP_ord ha) hb ((insP_perm x a).trans h.symm)

/-- How many items stand ahead, found one by one. -/
theorem takeWhile_len {p : Int × Int → Bool} {l : List (Int × Int)} {t : Nat} (h : t ≤ l.length) (h1 : ∀ j, j < t → ∀ x, l[j]? = some x → p x = true) (h2 : ∀ x, l[t]? = some x → p x = false) :
    l.takeWhile p = l.take t ∧ l.dropWhile p = l.drop t := by
  induction l generalizing t with
  | nil => simp
  | cons y l ih =>
    cases t with
    | zero =>
      have := h2 y (by simp)
      simp [this]
    | succ t =>
      have hy := h1 0 (by omega) y (by simp)
      obtain ⟨e1, e2⟩ := ih (t := t) (by simpa using h) (fun j hj x hx => h1 (j + 1) (by omega) x (by simpa using hx)) (fun x hx => h2 x (by simpa using hx))
      simp [hy, e1, e2]
theorem insP_at {x : Int × Int} {l : List (Int × Int)} {t : Nat} (h : t ≤ l.length) (h1 : ∀ j, j < t → ∀ a, l[j]? = some a → leP a x = true) (h2 : ∀ a, l[t]? = some a → leP a x = false) :
    insP x l = l.take t ++ x :: l.drop t := by
  obtain ⟨e1, e2⟩ := takeWhile_len (p := (leP · x)) h h1 h2
  rw [insP, e1, e2]
end Go.Proofs.Ytefeedpeiiaanaa
