/- Plain: what the steps of a heap keep: no node is greater than those below it. No statement of the seat is proved here. -/
import Derived.Test.YtefeedpeiiaanaaHeapPlain
namespace Go.Proofs.Ytefeedpeiiaanaa

/-- Among the first n items, each one whose node above is at lo or behind it is not less than that. -/
def HeapTo (L : List (Int × Int)) (n lo : Nat) : Prop := ∀ k, 0 < k → k < n → lo ≤ (k - 1) / 2 → leP (at0 L ((k - 1) / 2)) (at0 L k) = true

theorem at0_set (L : List (Int × Int)) {i : Nat} (hi : i < L.length) (x : Int × Int) (k : Nat) : at0 (L.set i x) k = if k = i then x else at0 L k := by
  unfold at0
  rw [List.getD_eq_getElem?_getD, List.getD_eq_getElem?_getD, List.getElem?_set]
  by_cases h : i = k
  · subst h
    simp [hi]
  · rw [if_neg h, if_neg (Ne.symm h)]
theorem at0_swap (L : List (Int × Int)) {i j : Nat} (hi : i < L.length) (hj : j < L.length) (k : Nat) : at0 (swapL L i j) k = if k = j then at0 L i else if k = i then at0 L j else at0 L k := by
  unfold swapL
  rw [at0_set _ (by simpa using hj), at0_set _ hi]

/-- A heap but for what stands at i, which may be too great. -/
structure Near (L : List (Int × Int)) (n lo i : Nat) : Prop where
  rel : ∀ k, 0 < k → k < n → lo ≤ (k - 1) / 2 → (k - 1) / 2 ≠ i → leP (at0 L ((k - 1) / 2)) (at0 L k) = true
  grand : ∀ k, 0 < k → k < n → (k - 1) / 2 = i → 0 < i → lo ≤ (i - 1) / 2 → leP (at0 L ((i - 1) / 2)) (at0 L k) = true
/-- A heap but for what stands at j, which may be too little. -/
structure NearUp (L : List (Int × Int)) (n j : Nat) : Prop where
  rel : ∀ k, 0 < k → k < n → k ≠ j → leP (at0 L ((k - 1) / 2)) (at0 L k) = true
  grand : ∀ k, 0 < k → k < n → (k - 1) / 2 = j → 0 < j → leP (at0 L ((j - 1) / 2)) (at0 L k) = true

theorem childL_par {L : List (Int × Int)} {i n : Nat} (_h : 2 * i + 1 < n) : (childL L i n - 1) / 2 = i := by
  unfold childL
  split <;> omega
theorem childL_min {L : List (Int × Int)} {i n : Nat} (k : Nat) (_h0 : 0 < k) (hk : k < n) (hp : (k - 1) / 2 = i) : leP (at0 L (childL L i n)) (at0 L k) = true := by
  have hk2 : k = 2 * i + 1 ∨ k = 2 * i + 2 := by omega
  unfold childL
  split
  · rename_i h
    rcases hk2 with rfl | rfl
    · rcases leP_total (at0 L (2 * i + 2)) (at0 L (2 * i + 1)) with h1 | h1
      · exact h1
      · have := h.2; rw [ltP, h1] at this; cases this
    · exact leP_refl _
  · rename_i h
    rcases hk2 with rfl | rfl
    · exact leP_refl _
    · have h2 : ltP (at0 L (2 * i + 2)) (at0 L (2 * i + 1)) = false := by
        cases hq : ltP (at0 L (2 * i + 2)) (at0 L (2 * i + 1)) with
        | false => rfl
        | true => exact absurd ⟨hk, hq⟩ h
      exact (ltP_false _ _).1 h2
theorem ltP_le {a b : Int × Int} (h : ltP a b = true) : leP a b = true := by
  rcases leP_total a b with h1 | h1
  · exact h1
  · rw [ltP, h1] at h; cases h

theorem near_swap {L : List (Int × Int)} {n lo i c : Nat} (hn : n ≤ L.length) (h : Near L n lo i) (hi : 2 * i + 1 < n) (hlo : lo ≤ i) (hc : c = childL L i n) (hl : ltP (at0 L c) (at0 L i) = true) : Near (swapL L i c) n lo c := by
  have hcl := childL_lt (L := L) (i := i) (n := n) hi
  have hcp := childL_par (L := L) (i := i) (n := n) hi
  rw [← hc] at hcl hcp
  have hs := at0_swap L (i := i) (j := c) (by omega) (by omega)
  refine ⟨fun k h0 hk hlk hne => ?_, fun k h0 hk hp _ _ => ?_⟩
  · rw [hs, hs, if_neg hne]
    by_cases hkc : k = c
    · subst hkc
      rw [if_pos hcp, if_pos rfl]
      exact ltP_le hl
    · rw [if_neg hkc]
      by_cases hpi : (k - 1) / 2 = i
      · rw [if_pos hpi, if_neg (by omega)]
        rw [hc]
        exact childL_min k h0 hk hpi
      · rw [if_neg hpi]
        by_cases hki : k = i
        · subst hki
          rw [if_pos rfl]
          exact h.grand c (by omega) (by omega) hcp h0 hlk
        · rw [if_neg hki]
          exact h.rel k h0 hk hlk hpi
  · rw [hs, hs, hcp, if_neg (by omega), if_pos rfl, if_neg (by omega), if_neg (by omega)]
    have := h.rel k h0 hk (by omega) (by omega)
    rw [hp] at this
    exact this

theorem down_heap : ∀ (f : Nat) (L : List (Int × Int)) (i n lo : Nat), n ≤ L.length → n - i ≤ f → lo ≤ i → Near L n lo i → HeapTo (downL f L i n).1 n lo
  | 0, L, i, n, lo, hn, hf, _, h => fun k h0 hk hlk => h.rel k h0 hk hlk (by omega)
  | f + 1, L, i, n, lo, hn, hf, hlo, h => by
    unfold downL
    split
    · rename_i h1
      exact fun k h0 hk hlk => h.rel k h0 hk hlk (by omega)
    · rename_i h1
      have hcl := childL_lt (L := L) (i := i) (n := n) (by omega)
      split
      · rename_i h2
        exact down_heap f _ _ n lo (by rw [swapL_length]; exact hn) (by omega) (by omega) (near_swap hn h (by omega) hlo rfl h2)
      · rename_i h2
        intro k h0 hk hlk
        by_cases hp : (k - 1) / 2 = i
        · rw [hp]
          have h3 : leP (at0 L i) (at0 L (childL L i n)) = true := (ltP_false _ _).1 (by simpa using h2)
          exact leP_trans h3 (childL_min k h0 hk hp)
        · exact h.rel k h0 hk hlk hp

theorem down_stay {f : Nat} {L : List (Int × Int)} {i n : Nat} (h : ∀ k, 0 < k → k < n → (k - 1) / 2 = i → leP (at0 L i) (at0 L k) = true) : downL f L i n = (L, i) := by
  cases f with
  | zero => rfl
  | succ f =>
    unfold downL
    split
    · rfl
    · rename_i h1
      have hcl := childL_lt (L := L) (i := i) (n := n) (by omega)
      have hcp := childL_par (L := L) (i := i) (n := n) (by omega)
      rw [if_neg]
      have := h _ (by omega) hcl.1 hcp
      simp [ltP, this]
theorem down_far : ∀ (f : Nat) (L : List (Int × Int)) (i n k : Nat), n ≤ L.length → n ≤ k → at0 (downL f L i n).1 k = at0 L k
  | 0, _, _, _, _, _, _ => rfl
  | f + 1, L, i, n, k, hn, hk => by
    unfold downL
    split
    · rfl
    · have hcl := childL_lt (L := L) (i := i) (n := n) (by omega)
      split
      · rw [down_far f _ _ n k (by rw [swapL_length]; exact hn) hk, at0_swap _ (by omega) (by omega), if_neg (by omega), if_neg (by omega)]
      · rfl
/-- What has not moved is as it was. -/
theorem down_still : ∀ (f : Nat) (L : List (Int × Int)) (i n : Nat), (downL f L i n).2 ≤ i → (downL f L i n).1 = L
  | 0, _, _, _, _ => rfl
  | f + 1, L, i, n, h => by
    unfold downL at h ⊢
    split
    · rfl
    · rename_i h1
      rw [if_neg h1] at h
      have hcl := childL_lt (L := L) (i := i) (n := n) (by omega)
      split
      · rename_i h2
        rw [if_pos h2] at h
        have := downL_ge f (swapL L i (childL L i n)) (childL L i n) n
        omega
      · rfl

theorem nearUp_swap {L : List (Int × Int)} {n j : Nat} (hn : n ≤ L.length) (h : NearUp L n j) (hj : j < n) (h0 : 0 < j) (hl : ltP (at0 L j) (at0 L ((j - 1) / 2)) = true) : NearUp (swapL L ((j - 1) / 2) j) n ((j - 1) / 2) := by
  have hs := at0_swap L (i := (j - 1) / 2) (j := j) (by omega) (by omega)
  refine ⟨fun k hk0 hk hne => ?_, fun k hk0 hk hp hi0 => ?_⟩
  · rw [hs, hs, if_neg hne]
    by_cases hkj : k = j
    · subst hkj
      rw [if_neg (by omega), if_pos rfl, if_pos rfl]
      exact ltP_le hl
    · rw [if_neg hkj]
      by_cases hpj : (k - 1) / 2 = j
      · rw [if_pos hpj]
        exact h.grand k hk0 hk hpj h0
      · rw [if_neg hpj]
        have h1 := h.rel k hk0 hk hkj
        by_cases hpi : (k - 1) / 2 = (j - 1) / 2
        · rw [if_pos hpi]
          rw [hpi] at h1
          exact leP_trans (ltP_le hl) h1
        · rw [if_neg hpi]
          exact h1
  · rw [hs, hs, if_neg (by omega : ¬ ((j - 1) / 2 - 1) / 2 = j), if_neg (by omega : ¬ ((j - 1) / 2 - 1) / 2 = (j - 1) / 2)]
    have h1 := h.rel ((j - 1) / 2) hi0 (by omega) (by omega)
    by_cases hkj : k = j
    · rw [if_pos hkj]
      exact h1
    · rw [if_neg hkj, if_neg (by omega)]
      have h2 := h.rel k hk0 hk hkj
      rw [hp] at h2
      exact leP_trans h1 h2
theorem up_heap : ∀ (f : Nat) (L : List (Int × Int)) (j n : Nat), n ≤ L.length → j < n → j < f → NearUp L n j → HeapTo (upL f L j) n 0
  | 0, _, _, _, _, _, hf, _ => by omega
  | f + 1, L, j, n, hn, hj, hf, h => by
    unfold upL
    split
    · rename_i h1
      exact fun k h0 hk _ => h.rel k h0 hk (by omega)
    · rename_i h1
      split
      · rename_i h2
        exact up_heap f _ _ n (by rw [swapL_length]; exact hn) (by omega) (by omega) (nearUp_swap hn h hj (by omega) h2)
      · rename_i h2
        intro k h0 hk _
        by_cases hkj : k = j
        · subst hkj
          exact (ltP_false _ _).1 (by simpa using h2)
        · exact h.rel k h0 hk hkj
theorem up_same {f : Nat} {L : List (Int × Int)} {j n : Nat} (h : HeapTo L n 0) (hj : j < n) : upL f L j = L := by
  cases f with
  | zero => rfl
  | succ f =>
    unfold upL
    split
    · rfl
    · rename_i h1
      rw [if_neg]
      have := h j (by omega) hj (Nat.zero_le _)
      simp [ltP, this]
theorem up_far : ∀ (f : Nat) (L : List (Int × Int)) (j k : Nat), j < L.length → j < k → at0 (upL f L j) k = at0 L k
  | 0, _, _, _, _, _ => rfl
  | f + 1, L, j, k, hj, hk => by
    unfold upL
    split
    · rfl
    · split
      · rw [up_far f _ _ k (by rw [swapL_length]; omega) (by omega), at0_swap _ (by omega) hj, if_neg (by omega), if_neg (by omega)]
      · rfl

/-- What is mended at i is a heap. -/
theorem fix_heap {L : List (Int × Int)} {n i : Nat} (hn : n ≤ L.length) (hi : i < n) (rel : ∀ k, 0 < k → k < n → k ≠ i → (k - 1) / 2 ≠ i → leP (at0 L ((k - 1) / 2)) (at0 L k) = true)
    (grand : ∀ k, 0 < k → k < n → (k - 1) / 2 = i → 0 < i → leP (at0 L ((i - 1) / 2)) (at0 L k) = true) : HeapTo (fixAt L i n) n 0 := by
  unfold fixAt
  by_cases hA : i = 0 ∨ leP (at0 L ((i - 1) / 2)) (at0 L i) = true
  · have hN : Near L n 0 i := ⟨fun k h0 hk _ hne => by
      by_cases hki : k = i
      · subst hki
        rcases hA with h | h
        · omega
        · exact h
      · exact rel k h0 hk hki hne, fun k h0 hk hp hi0 _ => grand k h0 hk hp hi0⟩
    have hH := down_heap n L i n 0 hn (by omega) (Nat.zero_le _) hN
    split
    · exact hH
    · rw [up_same hH hi]
      exact hH
  · have h0 : 0 < i := by omega
    have hlt : leP (at0 L i) (at0 L ((i - 1) / 2)) = true := by
      rcases leP_total (at0 L i) (at0 L ((i - 1) / 2)) with h | h
      · exact h
      · exact absurd (.inr h) hA
    have hst : downL n L i n = (L, i) := down_stay fun k hk0 hk hp => leP_trans hlt (grand k hk0 hk hp h0)
    rw [hst]
    simp only [Nat.lt_irrefl, if_false]
    refine up_heap (i + 1) L i n hn hi (by omega) ⟨fun k hk0 hk hne => ?_, fun k hk0 hk hp _ => grand k hk0 hk hp h0⟩
    by_cases hp : (k - 1) / 2 = i
    · rw [hp]
      exact leP_trans hlt (grand k hk0 hk hp h0)
    · exact rel k hk0 hk hne hp
theorem fixAt_far {L : List (Int × Int)} {i n k : Nat} (hn : n ≤ L.length) (hi : i < n) (hk : n ≤ k) : at0 (fixAt L i n) k = at0 L k := by
  unfold fixAt
  split
  · exact down_far n L i n k hn hk
  · rw [up_far _ _ _ _ (by rw [downL_length]; omega) (by omega)]
    exact down_far n L i n k hn hk

/-- The list is a heap. -/
def Heap (L : List (Int × Int)) : Prop := HeapTo L L.length 0
theorem initFrom_heap : ∀ (i : Nat) (L : List (Int × Int)), HeapTo L L.length i → Heap (initFrom i L)
  | 0, L, h => h
  | i + 1, L, h => by
    unfold initFrom
    have hl := downL_length L.length L i L.length
    refine initFrom_heap i _ ?_
    rw [hl]
    refine down_heap L.length L i L.length i (Nat.le_refl _) (by omega) (Nat.le_refl _) ⟨fun k h0 hk hlk hne => h k h0 hk (by omega), fun k h0 hk hp hi0 hlo => by omega⟩
theorem initL_heap (L : List (Int × Int)) : Heap (initL L) := initFrom_heap _ L fun k h0 hk hlk => by omega
theorem at0_append_left {L M : List (Int × Int)} {k : Nat} (h : k < L.length) : at0 (L ++ M) k = at0 L k := by
  unfold at0
  rw [List.getD_eq_getElem?_getD, List.getD_eq_getElem?_getD, List.getElem?_append_left h]
theorem at0_take {L : List (Int × Int)} {m k : Nat} (h : k < m) : at0 (L.take m) k = at0 L k := by
  unfold at0
  rw [List.getD_eq_getElem?_getD, List.getD_eq_getElem?_getD, List.getElem?_take_of_lt h]
theorem at0_mem {L : List (Int × Int)} {k : Nat} (h : k < L.length) : at0 L k ∈ L := by
  have : at0 L k = L[k] := by simp [at0, h]
  rw [this]
  exact List.getElem_mem h
theorem pushL_heap {L : List (Int × Int)} (h : Heap L) (x : Int × Int) : Heap (pushL L x) := by
  unfold Heap
  rw [pushL_length]
  refine up_heap _ _ _ _ (by simp) (by omega) (by omega) ⟨fun k h0 hk hne => ?_, fun k h0 hk hp _ => by omega⟩
  rw [at0_append_left (by omega), at0_append_left (by omega)]
  exact h k h0 (by omega) (Nat.zero_le _)
theorem take_heap {L : List (Int × Int)} {n : Nat} (hn : n ≤ L.length) (h : HeapTo L n 0) : Heap (L.take n) := by
  unfold Heap
  rw [List.length_take, Nat.min_eq_left hn]
  intro k h0 hk hlo
  rw [at0_take (by omega), at0_take hk]
  exact h k h0 hk hlo
theorem popL_heap {L : List (Int × Int)} (h : Heap L) (h0 : 0 < L.length) : Heap ((popL L).take (L.length - 1)) := by
  refine take_heap (by rw [popL_length]; omega) ?_
  unfold popL
  refine down_heap _ _ _ _ _ (by rw [swapL_length]; omega) (by omega) (Nat.le_refl _) ⟨fun k hk0 hk hlo hne => ?_, fun k _ _ _ hi0 _ => by omega⟩
  rw [at0_swap _ h0 (by omega), at0_swap _ h0 (by omega), if_neg (by omega), if_neg hne, if_neg (by omega), if_neg (by omega)]
  exact h k hk0 (by omega) (Nat.zero_le _)
theorem popL_last {L : List (Int × Int)} (h0 : 0 < L.length) : at0 (popL L) (L.length - 1) = at0 L 0 := by
  unfold popL
  rw [down_far _ _ _ _ _ (by rw [swapL_length]; omega) (Nat.le_refl _), at0_swap _ h0 (by omega), if_pos rfl]
theorem removeL_heap {L : List (Int × Int)} (h : Heap L) {i : Nat} (hi : i < L.length) : Heap ((removeL L i).take (L.length - 1)) := by
  refine take_heap (by rw [removeL_length]; omega) ?_
  unfold removeL
  split
  · rename_i he
    intro k h0 hk hlo
    exact h k h0 (by omega) hlo
  · rename_i he
    have hs := at0_swap L (i := i) (j := L.length - 1) hi (by omega)
    refine fix_heap (by rw [swapL_length]; omega) (by omega) (fun k h0 hk hne hp => ?_) (fun k h0 hk hp hi0 => ?_)
    · rw [hs, hs, if_neg (by omega), if_neg hp, if_neg (by omega), if_neg hne]
      exact h k h0 (by omega) (Nat.zero_le _)
    · rw [hs, hs, if_neg (by omega), if_neg (by omega), if_neg (by omega), if_neg (by omega)]
      have h1 := h k h0 (by omega) (Nat.zero_le _)
      have h2 := h i hi0 (by omega) (Nat.zero_le _)
      rw [hp] at h1
      exact leP_trans h2 h1
theorem removeL_last {L : List (Int × Int)} {i : Nat} (hi : i < L.length) : at0 (removeL L i) (L.length - 1) = at0 L i := by
  unfold removeL
  split
  · rename_i he
    rw [he]
  · rename_i he
    rw [fixAt_far (by rw [swapL_length]; omega) (by omega) (Nat.le_refl _), at0_swap _ hi (by omega), if_pos rfl]
theorem removeL_perm {L : List (Int × Int)} {i : Nat} (hi : i < L.length) : (removeL L i).Perm L := by
  unfold removeL
  split
  · exact List.Perm.refl _
  · exact (fixAt_perm _ _ _ (by rw [swapL_length]; exact hi) (by rw [swapL_length]; omega)).trans (swapL_perm hi (by omega))
theorem popL_perm {L : List (Int × Int)} (h0 : 0 < L.length) : (popL L).Perm L := by
  unfold popL
  exact (downL_perm _ _ _ _ (by rw [swapL_length]; omega)).trans (swapL_perm h0 (by omega))
/-- A changed key, mended. -/
theorem setFix_heap {L : List (Int × Int)} (h : Heap L) {i : Nat} (hi : i < L.length) (x : Int × Int) : Heap (fixAt (L.set i x) i L.length) := by
  unfold Heap
  rw [fixAt_length, List.length_set]
  refine fix_heap (by simp) hi (fun k h0 hk hne hp => ?_) (fun k h0 hk hp hi0 => ?_)
  · rw [at0_set _ hi, at0_set _ hi, if_neg hp, if_neg hne]
    exact h k h0 hk (Nat.zero_le _)
  · rw [at0_set _ hi, at0_set _ hi, if_neg (by omega), if_neg (by omega)]
    have h1 := h k h0 hk (Nat.zero_le _)
    have h2 := h i hi0 hi (Nat.zero_le _)
    rw [hp] at h1
    exact leP_trans h2 h1
/-- The first item is not greater than any. -/
theorem heap_root {L : List (Int × Int)} (h : Heap L) : ∀ k, k < L.length → leP (at0 L 0) (at0 L k) = true := by
  intro k
  induction k using Nat.strongRecOn with
  | _ k ih =>
    intro hk
    by_cases h0 : k = 0
    · subst h0; exact leP_refl _
    · exact leP_trans (ih ((k - 1) / 2) (by omega) (by omega)) (h k (by omega) hk (Nat.zero_le _))
theorem heap_min {L : List (Int × Int)} (h : Heap L) : ∀ x ∈ L, leP (at0 L 0) x = true := by
  intro x hx
  obtain ⟨k, hk⟩ := List.mem_iff_getElem?.1 hx
  obtain ⟨hl, e⟩ := List.getElem?_eq_some_iff.1 hk
  have := heap_root h k hl
  rw [show at0 L k = x by simp [at0, hk]] at this
  exact this
theorem take_last_perm {L M : List (Int × Int)} {x : Int × Int} (hp : M.Perm L) (h0 : 0 < L.length) (hx : at0 M (L.length - 1) = x) : L.Perm (x :: M.take (L.length - 1)) := by
  have hl := hp.length_eq
  have e : M = M.take (L.length - 1) ++ [x] := by
    conv => lhs; rw [← List.take_append_drop (L.length - 1) M]
    congr 1
    rw [List.drop_eq_getElem_cons (by omega), List.drop_of_length_le (by omega), ← hx]
    congr 1
    have hlt : L.length - 1 < M.length := by omega
    rw [at0, List.getD_eq_getElem?_getD, List.getElem?_eq_getElem hlt]
    rfl
  refine hp.symm.trans ?_
  conv => lhs; rw [e]
  exact List.perm_append_singleton _ _
end Go.Proofs.Ytefeedpeiiaanaa
