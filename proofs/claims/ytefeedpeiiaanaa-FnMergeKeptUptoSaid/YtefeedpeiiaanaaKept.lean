/- The contract of impl.kept: one step on a list in order, by its definition. No statement of the seat is proved here. -/
import Derived.Test.YtefeedpeiiaanaaKept3
import Derived.Test.YtefeedpeiiaanaaSteps
namespace Go.Proofs.Ytefeedpeiiaanaa
open Go.RowKit

/-- One step on a list in order: the list behind it, the item, whether it is made. -/
def kstep (S : List (Int × Int)) (s : Stp) : List (Int × Int) × (Int × Int) × Bool :=
  if s.1 = 0 then (insP s.2.1 S, s.2.1, true)
  else if s.1 = 1 then (match S with | [] => (S, (0, 0), false) | a :: r => (r, a, true))
  else if s.1 = 2 then (if s.2.1 ∈ S then (S.erase s.2.1, s.2.1, true) else (S, (0, 0), false))
  else if s.1 = 3 then (if s.2.1 ∈ S then (insP (s.2.2, s.2.1.2) (S.erase s.2.1), (s.2.2, s.2.1.2), true) else (S, (0, 0), false))
  else if s.1 = 4 then (S, (0, 0), true)
  else (S, (0, 0), false)

theorem kstep_ord {S : List (Int × Int)} (h : Ord S) (s : Stp) : Ord (kstep S s).1 := by
  unfold kstep
  split
  · exact insP_ord h
  · split
    · cases S with
      | nil => exact h
      | cons a r => exact List.Pairwise.of_cons h
    · split
      · split
        · exact List.Pairwise.sublist List.erase_sublist h
        · exact h
      · split
        · split
          · exact insP_ord (List.Pairwise.sublist List.erase_sublist h)
          · exact h
        · split <;> exact h
theorem kstep_len (S : List (Int × Int)) (s : Stp) : (kstep S s).1.length ≤ S.length + 1 := by
  unfold kstep
  split
  · simp [insP_length]
  · split
    · cases S <;> simp
      omega
    · split
      · split
        · have := List.length_erase_le (a := s.2.1) (l := S); simp; omega
        · simp
      · split
        · split
          · rename_i hm
            simp only [insP_length]
            have := List.length_erase_le (a := s.2.1) (l := S)
            omega
          · simp
        · split <;> simp

theorem kept_ok (w : World) (base : Nat) (v : Value) (n : Nat) (S : List (Int × Int)) (s : Stp) (hown : w.ownsRow base 28 2 v n (its S)) (ho : Ord S) (hs : n ≤ 1099511620000) (hbase : base ≤ w.heap.size) :
    Calls Try.prog 25 #[v, stpV s] w (KPost w base v (kstep S s).1 (kstep S s).2.1 (kstep S s).2.2) := by
  obtain ⟨k, ⟨x1, x2⟩, y⟩ := s
  have hl := its_len_own hown
  unfold stpV kstep
  simp only
  by_cases h0 : k = 0
  · subst h0
    rw [if_pos rfl]
    exact kept_push w base v n S x1 x2 y hown ho hs hbase
  · rw [if_neg h0]
    by_cases h1 : k = 1
    · subst h1
      rw [if_pos rfl]
      cases S with
      | nil => exact kept_pop_none w base v n [] x1 x2 y hown (by simpa using hl.symm)
      | cons a r => exact kept_pop w base v n (a :: r) x1 x2 y a.1 a.2 hown hs rfl (by rw [← hl]; simp)
    · rw [if_neg h1]
      by_cases h2 : k = 2
      · subst h2
        rw [if_pos rfl]
        by_cases hm : (x1, x2) ∈ S
        · rw [if_pos hm]; exact kept_remove w base v n S x1 x2 y hown ho hs hm
        · rw [if_neg hm]; exact kept_out2 w base v n S x1 x2 y hown ho hs hm
      · rw [if_neg h2]
        by_cases h3 : k = 3
        · subst h3
          rw [if_pos rfl]
          by_cases hm : (x1, x2) ∈ S
          · rw [if_pos hm]; exact kept_fix w base v n S x1 x2 y hown ho hs hm hbase
          · rw [if_neg hm]; exact kept_out3 w base v n S x1 x2 y hown ho hs hm
        · rw [if_neg h3]
          by_cases h4 : k = 4
          · subst h4
            rw [if_pos rfl]
            exact kept_init w base v n S x1 x2 y hown
          · rw [if_neg h4]
            exact kept_other w base v n S x1 x2 y k (by simpa using h0) (by simpa using h1) (by simpa using h2) (by simpa using h3) (by simpa using h4) hown
end Go.Proofs.Ytefeedpeiiaanaa
