/- Plain: scripts of pushes and pops on a list in order. No statement of the seat is proved here. -/
import Derived.Test.YtefeedpeiiaanaaQueuePlain
namespace Go.Proofs.Ytefeedpeiiaanaa

def pushes (M : List (Int × Int)) : List Stp := M.map fun x => (0, x, 0)
def pops (n : Nat) : List Stp := List.replicate n (1, (0, 0), 0)
theorem pushes_length (M : List (Int × Int)) : (pushes M).length = M.length := by simp [pushes]
theorem pops_length (n : Nat) : (pops n).length = n := by simp [pops]
theorem pushes_take (M : List (Int × Int)) {j : Nat} {x : Int × Int} (h : M[j]? = some x) : (pushes M).take (j + 1) = (pushes M).take j ++ [(0, x, 0)] :=
  take_snoc (by simp [pushes, h])
theorem pops_succ (j : Nat) : pops (j + 1) = pops j ++ [(1, (0, 0), 0)] := by
  unfold pops
  rw [List.replicate_succ', ]
theorem krows_append (S : List (Int × Int)) (T U : List Stp) : krows S (T ++ U) = krows S T ++ krows (kend S T) U := by
  induction T generalizing S with
  | nil => rfl
  | cons s T ih => simp only [List.cons_append, krows, kend, ih]
theorem kend_pushes (S M : List (Int × Int)) : kend S (pushes M) = M.foldl (fun acc x => insP x acc) S := by
  induction M generalizing S with
  | nil => rfl
  | cons x M ih =>
    have h : kstep S (0, x, 0) = (insP x S, x, true) := by unfold kstep; rw [if_pos rfl]
    simp only [pushes, List.map_cons, kend, h, List.foldl_cons]
    exact ih _
theorem kend_split (L : List (Int × Int)) (k : Nat) : kend (sortP (L.take k)) (pushes (L.drop k)) = sortP L := by
  rw [kend_pushes]
  unfold sortP
  rw [← List.foldl_append, List.take_append_drop]
theorem kstep_pop (a : Int × Int) (r : List (Int × Int)) (x : Int × Int) (y : Int) : kstep (a :: r) (1, x, y) = (r, a, true) := by
  unfold kstep
  rw [if_neg (by simp), if_pos rfl]
theorem krows_pops : ∀ (S : List (Int × Int)) (n i : Nat) (x : Int × Int), S.length = n → S[i]? = some x → (krows S (pops n))[i]? = some (true, x, S.drop (i + 1))
  | [], n, i, x, _, hx => by simp at hx
  | a :: r, n, i, x, hl, hx => by
    obtain ⟨m, rfl⟩ : ∃ m, n = m + 1 := ⟨r.length, by simpa using hl.symm⟩
    have e : pops (m + 1) = (1, (0, 0), 0) :: pops m := by unfold pops; rw [List.replicate_succ]
    rw [e]
    simp only [krows, kstep_pop]
    cases i with
    | zero => simp at hx; subst hx; simp
    | succ i =>
      simp only [List.getElem?_cons_succ, List.drop_succ_cons]
      exact krows_pops r m i x (by simpa using hl) (by simpa using hx)
/-- The i-th pop gives the i-th item of the list in order. -/
theorem pop_row {L : List (Int × Int)} {n k i : Nat} {x : Int × Int} (hl : L.length = n) (hk : k ≤ n) (hx : (sortP L)[i]? = some x) :
    (kall (L.take k) (pushes (L.drop k) ++ pops n))[n - k + 1 + i]? = some (true, x, (sortP L).drop (i + 1)) := by
  unfold kall
  rw [krows_append, kend_split, show n - k + 1 + i = (n - k + i) + 1 by omega, List.getElem?_cons_succ, List.getElem?_append_right (by rw [krows_length, pushes_length, List.length_drop]; omega), krows_length, pushes_length, List.length_drop, hl, show n - k + i - (n - k) = i by omega]
  exact krows_pops _ _ _ _ (by rw [sortP_length, hl]) hx
/-- What a heap gives at the i-th pop. -/
theorem pop_like {L : List (Int × Int)} {n k i : Nat} {x : Int × Int} {d : DEnt} (hl : L.length = n) (hk : k ≤ n) (hx : (sortP L)[i]? = some x) (hd : (qall (L.take k) (pushes (L.drop k) ++ pops n))[n - k + 1 + i]? = some d) :
    d.1 = true ∧ d.2.1 = x ∧ d.2.2.length = n - 1 - i := by
  obtain ⟨h1, h2, h3, _⟩ := all_like _ _ _ _ _ hd (pop_row hl hk hx)
  refine ⟨h1, h2, ?_⟩
  rw [h3.length_eq, List.length_drop, sortP_length, hl]
  omega
end Go.Proofs.Ytefeedpeiiaanaa
