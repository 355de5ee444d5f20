/- Plain: the steps of impl.Queue on lists, and that they go on like those of impl.Kept. No statement of the seat is proved here. -/
import Derived.Test.YtefeedpeiiaanaaHeapPlain2
import Derived.Test.YtefeedpeiiaanaaKeptAll
import Derived.Test.YtefeedpeiiaanaaQueued1
namespace Go.Proofs.Ytefeedpeiiaanaa

/-- One step on a heap: the list behind it, the item, whether it is made. -/
def qstep (L : List (Int × Int)) (s : Stp) : List (Int × Int) × (Int × Int) × Bool :=
  if s.1 = 0 then (pushL L s.2.1, s.2.1, true)
  else if s.1 = 1 then (if 0 < L.length then ((popL L).take (L.length - 1), at0 L 0, true) else (L, (0, 0), false))
  else if s.1 = 2 then (if s.2.1 ∈ L then ((removeL L (L.idxOf s.2.1)).take (L.length - 1), s.2.1, true) else (L, (0, 0), false))
  else if s.1 = 3 then (if s.2.1 ∈ L then (fixAt (L.set (L.idxOf s.2.1) (s.2.2, s.2.1.2)) (L.idxOf s.2.1) L.length, (s.2.2, s.2.1.2), true) else (L, (0, 0), false))
  else if s.1 = 4 then (initL L, (0, 0), true)
  else (L, (0, 0), false)

theorem set_perm {L : List (Int × Int)} {i : Nat} (hi : i < L.length) (x : Int × Int) : (L.set i x).Perm (x :: L.eraseIdx i) := by
  induction L generalizing i with
  | nil => simp at hi
  | cons y L ih =>
    cases i with
    | zero => simp
    | succ i =>
      simp only [List.set_cons_succ, List.eraseIdx_cons_succ]
      exact ((ih (by simpa using hi)).cons y).trans (List.Perm.swap x y _)
theorem erase_of_idx {L : List (Int × Int)} {x : Int × Int} (h : x ∈ L) : (L.eraseIdx (L.idxOf x)).Perm (L.erase x) := by
  have hl := List.idxOf_lt_length_iff.2 h
  have h1 : L.Perm (x :: L.eraseIdx (L.idxOf x)) := by
    have h2 := set_perm hl x
    have h3 : L.set (L.idxOf x) x = L := by
      have : L[L.idxOf x] = x := by simp
      have h4 : L.set (L.idxOf x) L[L.idxOf x] = L := List.set_getElem_self hl
      rw [this] at h4
      exact h4
    rw [h3] at h2
    exact h2
  exact List.Perm.cons_inv (h1.symm.trans (List.perm_cons_erase h))

theorem qstep_kstep {L S : List (Int × Int)} (hh : Heap L) (hp : L.Perm S) (ho : Ord S) (s : Stp) : Heap (qstep L s).1 ∧ (qstep L s).1.Perm (kstep S s).1 ∧ (qstep L s).2 = (kstep S s).2 := by
  obtain ⟨k, x, y⟩ := s
  have hm : x ∈ L ↔ x ∈ S := hp.mem_iff
  unfold qstep kstep
  simp only
  by_cases h0 : k = 0
  · rw [if_pos h0, if_pos h0]
    exact ⟨pushL_heap hh x, (pushL_perm L x).trans ((hp.cons x).trans (insP_perm x S).symm), rfl⟩
  rw [if_neg h0, if_neg h0]
  by_cases h1 : k = 1
  · rw [if_pos h1, if_pos h1]
    cases S with
    | nil =>
      obtain rfl : L = [] := hp.eq_nil
      exact ⟨hh, List.Perm.refl _, rfl⟩
    | cons a r =>
      have hl : 0 < L.length := by rw [hp.length_eq]; simp
      rw [if_pos hl]
      have ha : at0 L 0 = a := by
        have h2 : leP (at0 L 0) a = true := heap_min hh a (hp.mem_iff.2 (by simp))
        have h3 : at0 L 0 ∈ a :: r := hp.mem_iff.1 (at0_mem hl)
        rcases List.mem_cons.1 h3 with h4 | h4
        · exact h4
        · exact leP_anti h2 (List.rel_of_pairwise_cons ho h4)
      refine ⟨popL_heap hh hl, ?_, by rw [ha]⟩
      have hq := take_last_perm (popL_perm hl) hl (popL_last hl)
      rw [ha] at hq
      exact List.Perm.cons_inv (hq.symm.trans hp)
  rw [if_neg h1, if_neg h1]
  by_cases h2 : k = 2
  · rw [if_pos h2, if_pos h2]
    by_cases hx : x ∈ L
    · rw [if_pos hx, if_pos (hm.1 hx)]
      have hl := List.idxOf_lt_length_iff.2 hx
      refine ⟨removeL_heap hh hl, ?_, rfl⟩
      have hq := take_last_perm (removeL_perm hl) (by omega) (removeL_last hl)
      rw [at0_idxOf hx] at hq
      exact List.Perm.cons_inv (hq.symm.trans (hp.trans (List.perm_cons_erase (hm.1 hx))))
    · rw [if_neg hx, if_neg (fun h => hx (hm.2 h))]
      exact ⟨hh, hp, rfl⟩
  rw [if_neg h2, if_neg h2]
  by_cases h3 : k = 3
  · rw [if_pos h3, if_pos h3]
    by_cases hx : x ∈ L
    · rw [if_pos hx, if_pos (hm.1 hx)]
      have hl := List.idxOf_lt_length_iff.2 hx
      refine ⟨setFix_heap hh hl _, ?_, rfl⟩
      refine (fixAt_perm _ _ _ (by simpa using hl) (by simp)).trans ?_
      refine (set_perm hl _).trans ?_
      refine (List.Perm.cons _ ((erase_of_idx hx).trans (hp.erase x))).trans (insP_perm _ _).symm
    · rw [if_neg hx, if_neg (fun h => hx (hm.2 h))]
      exact ⟨hh, hp, rfl⟩
  rw [if_neg h3, if_neg h3]
  by_cases h4 : k = 4
  · rw [if_pos h4, if_pos h4]
    exact ⟨initL_heap L, (initL_perm L).trans hp, rfl⟩
  · rw [if_neg h4, if_neg h4]
    exact ⟨hh, hp, rfl⟩

/-- The rows behind the steps of a script on a heap. -/
def qrows (L : List (Int × Int)) : List Stp → List DEnt
  | [] => []
  | s :: T => ((qstep L s).2.2, (qstep L s).2.1, (qstep L s).1) :: qrows (qstep L s).1 T
def qend (L : List (Int × Int)) : List Stp → List (Int × Int)
  | [] => L
  | s :: T => qend (qstep L s).1 T
theorem qrows_snoc (S : List (Int × Int)) (T : List Stp) (s : Stp) : qrows S (T ++ [s]) = qrows S T ++ [((qstep (qend S T) s).2.2, (qstep (qend S T) s).2.1, (qstep (qend S T) s).1)] := by
  induction T generalizing S with
  | nil => rfl
  | cons a T ih => simp only [List.cons_append, qrows, qend, ih]
theorem qend_snoc (S : List (Int × Int)) (T : List Stp) (s : Stp) : qend S (T ++ [s]) = (qstep (qend S T) s).1 := by
  induction T generalizing S with
  | nil => rfl
  | cons a T ih => simp only [List.cons_append, qend, ih]
theorem qrows_length (S : List (Int × Int)) (T : List Stp) : (qrows S T).length = T.length := by
  induction T generalizing S with
  | nil => rfl
  | cons a T ih => simp [qrows, ih]
/-- Two rows tell the same. -/
def DLike (d e : DEnt) : Prop := d.1 = e.1 ∧ d.2.1 = e.2.1 ∧ d.2.2.Perm e.2.2 ∧ Heap d.2.2 ∧ Ord e.2.2
theorem qrows_like {L S : List (Int × Int)} (hh : Heap L) (hp : L.Perm S) (ho : Ord S) (T : List Stp) : ∀ (i : Nat) (d e : DEnt), (qrows L T)[i]? = some d → (krows S T)[i]? = some e → DLike d e := by
  induction T generalizing L S with
  | nil => intro i d e hd; simp [qrows] at hd
  | cons s T ih =>
    obtain ⟨h1, h2, h3⟩ := qstep_kstep hh hp ho s
    have h4 := kstep_ord ho s
    intro i d e hd he
    cases i with
    | zero =>
      simp only [qrows, krows, List.getElem?_cons_zero, Option.some.injEq] at hd he
      subst hd he
      exact ⟨by simp only [h3], by simp only [h3], h2, h1, h4⟩
    | succ i =>
      simp only [qrows, krows, List.getElem?_cons_succ] at hd he
      exact ih h1 h2 h4 i d e hd he
theorem qend_like {L S : List (Int × Int)} (hh : Heap L) (hp : L.Perm S) (ho : Ord S) (T : List Stp) : Heap (qend L T) ∧ (qend L T).Perm (kend S T) := by
  induction T generalizing L S with
  | nil => exact ⟨hh, hp⟩
  | cons s T ih =>
    obtain ⟨h1, h2, h3⟩ := qstep_kstep hh hp ho s
    exact ih h1 h2 (kstep_ord ho s)
/-- Both scripts from a start. -/
def qall (xs : List (Int × Int)) (T : List Stp) : List DEnt := (false, (0, 0), initL xs) :: qrows (initL xs) T
def kall (xs : List (Int × Int)) (T : List Stp) : List DEnt := (false, (0, 0), sortP xs) :: krows (sortP xs) T
theorem qall_length (xs : List (Int × Int)) (T : List Stp) : (qall xs T).length = T.length + 1 := by simp [qall, qrows_length]
theorem kall_length (xs : List (Int × Int)) (T : List Stp) : (kall xs T).length = T.length + 1 := by simp [kall, krows_length]
theorem start_perm (xs : List (Int × Int)) : (initL xs).Perm (sortP xs) := (initL_perm xs).trans (sortP_perm xs).symm
theorem all_like (xs : List (Int × Int)) (T : List Stp) : ∀ (i : Nat) (d e : DEnt), (qall xs T)[i]? = some d → (kall xs T)[i]? = some e → DLike d e := by
  intro i d e hd he
  cases i with
  | zero =>
    simp [qall] at hd
    simp [kall] at he
    subst hd he
    exact ⟨rfl, rfl, start_perm xs, initL_heap xs, sortP_ord xs⟩
  | succ i =>
    simp only [qall, List.getElem?_cons_succ] at hd
    simp only [kall, List.getElem?_cons_succ] at he
    exact qrows_like (initL_heap xs) (start_perm xs) (sortP_ord xs) T i d e hd he
end Go.Proofs.Ytefeedpeiiaanaa
