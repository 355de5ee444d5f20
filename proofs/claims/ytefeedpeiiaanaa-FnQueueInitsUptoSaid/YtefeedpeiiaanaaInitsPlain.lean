/- Plain: a script with Init at some places. No statement of the seat is proved here. -/
import Derived.Test.YtefeedpeiiaanaaFnQueueKept
namespace Go.Proofs.Ytefeedpeiiaanaa
open Go.RowKit

def iniS : Stp := (4, (0, 0), 0)
/-- The first j steps, with an Init ahead of those that are marked. -/
def moreTo (T : List Stp) (I : List Bool) : Nat → List Stp
  | 0 => []
  | j + 1 => moreTo T I j ++ (if I.getD j false then [iniS] else []) ++ (T.drop j).take 1
theorem kstep_init (S : List (Int × Int)) : kstep S iniS = (S, (0, 0), true) := by
  unfold kstep iniS
  rw [if_neg (by simp), if_neg (by simp), if_neg (by simp), if_neg (by simp), if_pos rfl]
theorem drop_take_one {T : List Stp} {j : Nat} {s : Stp} (h : T[j]? = some s) : (T.drop j).take 1 = [s] := by
  obtain ⟨h1, h2⟩ := List.getElem?_eq_some_iff.1 h
  rw [List.drop_eq_getElem_cons h1, List.take_succ_cons, List.take_zero, h2]
theorem kend_append (S : List (Int × Int)) (T U : List Stp) : kend S (T ++ U) = kend (kend S T) U := by
  induction T generalizing S with
  | nil => rfl
  | cons s T ih => simp only [List.cons_append, kend, ih]
theorem krows_append' (S : List (Int × Int)) (T U : List Stp) : krows S (T ++ U) = krows S T ++ krows (kend S T) U := by
  induction T generalizing S with
  | nil => rfl
  | cons s T ih => simp only [List.cons_append, krows, kend, ih]
theorem moreTo_len_le (T : List Stp) (I : List Bool) : ∀ j, j ≤ T.length → (moreTo T I j).length ≤ 2 * j ∧ j ≤ (moreTo T I j).length
  | 0, _ => ⟨Nat.le_refl _, Nat.le_refl _⟩
  | j + 1, h => by
    have ih := moreTo_len_le T I j (by omega)
    have hs : T[j]? = some T[j] := List.getElem?_eq_getElem (by omega)
    unfold moreTo
    rw [drop_take_one hs]
    split <;> simp <;> omega
theorem moreTo_end (T : List Stp) (I : List Bool) (S : List (Int × Int)) : ∀ j, j ≤ T.length → kend S (moreTo T I j) = kend S (T.take j)
  | 0, _ => by simp [moreTo]
  | j + 1, h => by
    have hs : T[j]? = some T[j] := List.getElem?_eq_getElem (by omega)
    have ih := moreTo_end T I S j (by omega)
    unfold moreTo
    rw [drop_take_one hs, take_snoc hs, kend_append, kend_append, kend_append, ih]
    split
    · simp only [kend, kstep_init]
    · rfl
/-- What is put behind changes no row that is there. -/
theorem moreTo_grow (T : List Stp) (I : List Bool) : ∀ d j, ∃ U, moreTo T I (j + d) = moreTo T I j ++ U
  | 0, j => ⟨[], by simp⟩
  | d + 1, j => by
    obtain ⟨U, hU⟩ := moreTo_grow T I d j
    refine ⟨U ++ ((if I.getD (j + d) false then [iniS] else []) ++ (T.drop (j + d)).take 1), ?_⟩
    rw [show j + (d + 1) = (j + d) + 1 by omega]
    conv => lhs; unfold moreTo
    rw [hU]
    simp [List.append_assoc]
/-- The row behind a step is the same with the Inits. -/
theorem due_row (xs : List (Int × Int)) (T : List Stp) (I : List Bool) {j : Nat} (hj : j < T.length) : (kall xs (moreTo T I T.length))[(moreTo T I (j + 1)).length]? = (kall xs T)[j + 1]? := by
  have hs : T[j]? = some T[j] := List.getElem?_eq_getElem hj
  obtain ⟨U, hU⟩ := moreTo_grow T I (T.length - (j + 1)) (j + 1)
  rw [show j + 1 + (T.length - (j + 1)) = T.length by omega] at hU
  have hlen : (moreTo T I (j + 1)).length = (moreTo T I j ++ (if I.getD j false then [iniS] else [])).length + 1 := by
    conv => lhs; unfold moreTo
    rw [drop_take_one hs, List.length_append, List.length_append]
    rfl
  have hmore : moreTo T I (j + 1) = (moreTo T I j ++ (if I.getD j false then [iniS] else [])) ++ [T[j]] := by
    conv => lhs; unfold moreTo
    rw [drop_take_one hs]
  have hend : kend (sortP xs) (moreTo T I j ++ (if I.getD j false then [iniS] else [])) = kend (sortP xs) (T.take j) := by
    rw [kend_append, moreTo_end T I (sortP xs) j (by omega)]
    split
    · simp only [kend, kstep_init]
    · rfl
  have h1 : (kall xs (moreTo T I T.length))[(moreTo T I (j + 1)).length]? = some ((kstep (kend (sortP xs) (T.take j)) T[j]).2.2, (kstep (kend (sortP xs) (T.take j)) T[j]).2.1, (kstep (kend (sortP xs) (T.take j)) T[j]).1) := by
    unfold kall
    rw [hlen, List.getElem?_cons_succ, hU, krows_append', List.getElem?_append_left (by rw [krows_length, hmore]; simp), hmore, krows_snoc, hend, List.getElem?_append_right (by rw [krows_length]; exact Nat.le_refl _), krows_length, Nat.sub_self]
    rfl
  have h2 : (kall xs T)[j + 1]? = some ((kstep (kend (sortP xs) (T.take j)) T[j]).2.2, (kstep (kend (sortP xs) (T.take j)) T[j]).2.1, (kstep (kend (sortP xs) (T.take j)) T[j]).1) := by
    unfold kall
    have e : T = T.take (j + 1) ++ T.drop (j + 1) := (List.take_append_drop _ _).symm
    rw [List.getElem?_cons_succ]
    conv => lhs; rw [e]
    rw [krows_append', List.getElem?_append_left (by rw [krows_length, List.length_take]; omega), take_snoc hs, krows_snoc, List.getElem?_append_right (by rw [krows_length, List.length_take]; omega), krows_length, List.length_take, Nat.min_eq_left (by omega), Nat.sub_self]
    rfl
  rw [h1, h2]
/-- Both heaps give the same behind a step. -/
theorem due_like {xs : List (Int × Int)} {T : List Stp} {I : List Bool} {j : Nat} {d e : DEnt} (hj : j < T.length) (hd : (qall xs T)[j + 1]? = some d) (he : (qall xs (moreTo T I T.length))[(moreTo T I (j + 1)).length]? = some e) : RowsLike [d] [e] := by
  have hlt : j + 1 < (kall xs T).length := by rw [kall_length]; omega
  have hk : (kall xs T)[j + 1]? = some (kall xs T)[j + 1] := List.getElem?_eq_getElem hlt
  have h1 := all_like xs T _ _ _ hd hk
  have h2 := all_like xs (moreTo T I T.length) _ _ _ he (by rw [due_row xs T I hj]; exact hk)
  intro i a b ha hb
  cases i with
  | zero =>
    simp at ha hb
    subst ha hb
    exact ⟨h1.1.trans h2.1.symm, h1.2.1.trans h2.2.1.symm, sortP_of_perm (h1.2.2.1.trans h2.2.2.1.symm)⟩
  | succ i => simp at ha
/-- One row of a slice of rows. -/
theorem Dones.one {w : World} {b o n c : Nat} {D : List DEnt} {k : Nat} {d : DEnt} (h : Dones w (some ⟨b, o, none⟩) n c D) (hk : k < n) (hd : D[k]? = some d) : Dones w (some ⟨b, o + k * 4, none⟩) 1 (c - k) [d] := by
  obtain ⟨vs, hvl, hr, hi⟩ := h
  obtain ⟨B, q, h1, h2⟩ := hi k d hd
  obtain ⟨g0, g1, g2, g3⟩ := dcells_get D vs k d _ hd h1
  obtain ⟨b', o', e, hc⟩ := hr.2.2.2 (by omega)
  injection e with e
  injection e with e1 e2
  subst e1 e2
  have hle := hr.le
  have hcap := hr.cap
  refine ⟨[.slice B d.2.2.length q], rfl, ⟨by simp [dcells, dcell], by omega, by omega, fun _ => ⟨b, o + k * 4, rfl, fun j u hu => ?_⟩⟩, fun i e he => ?_⟩
  · have : j < 4 := by
      rcases Nat.lt_or_ge j 4 with h | h
      · exact h
      · rw [List.getElem?_eq_none (by simp [dcells, dcell]; omega)] at hu; cases hu
    have hj : j = 0 ∨ j = 1 ∨ j = 2 ∨ j = 3 := by omega
    rcases hj with rfl | rfl | rfl | rfl
    · simp [dcells, dcell] at hu; subst hu; have := hc _ _ g0; simpa [Nat.add_assoc] using this
    · simp [dcells, dcell] at hu; subst hu; have := hc _ _ g1; simpa [Nat.add_assoc] using this
    · simp [dcells, dcell] at hu; subst hu; have := hc _ _ g2; simpa [Nat.add_assoc] using this
    · simp [dcells, dcell] at hu; subst hu; have := hc _ _ g3; simpa [Nat.add_assoc] using this
  · cases i with
    | zero => simp at he; subst he; exact ⟨B, q, rfl, h2⟩
    | succ i => simp at he
end Go.Proofs.Ytefeedpeiiaanaa
