/- Plain: putting an item into a kept list and taking it out is inserting and deleting its key; no program in sight. No statement of the seat is proved here. -/
import Derived.Test.YtecjkonjgmjppaaKeptAll
import Derived.Test.YtecjkonjgmjppaaSearch
import Derived.Test.YtecjkonjgmjppaaCommutePlain
namespace Go.Proofs.Ytecjkonjgmjppaa

theorem erase_insP2 {S : List (Int × Int)} {x : Int × Int} (ho : Ord S) : (insP x S).erase x = S := by
  refine ord_perm_eq (List.Pairwise.sublist List.erase_sublist (insP_ord ho)) ho ?_
  have h1 := List.perm_cons_erase (a := x) (l := insP x S) ((insP_perm x S).mem_iff.2 (by simp))
  exact List.Perm.cons_inv (h1.symm.trans (insP_perm x S))
theorem isEdits_rows {S : List (Int × Int)} (x : Int × Int) (ho : Ord S) : krows (sortP S) [(0, x, 0), (2, x, 0)] = [(true, x, insP x S), (true, x, S)] := by
  have hm : x ∈ insP x S := (insP_perm x S).mem_iff.2 (by simp)
  have h0 : ∀ T, kstep T (0, x, 0) = (insP x T, x, true) := fun T => by unfold kstep; rw [if_pos rfl]
  have h2 : kstep (insP x S) (2, x, 0) = ((insP x S).erase x, x, true) := by
    unfold kstep
    rw [if_neg (by simp), if_neg (by simp), if_pos rfl, if_pos hm]
  rw [sortP_of_ord ho]
  simp only [krows, h0, h2, erase_insP2 ho]
theorem isEdits_ins {S : List (Int × Int)} {key : Int} {n i k : Nat} {is : Bool} (ho : Ord S) (h0 : ∀ x ∈ S, x.2 = 0) (hf : SFound S key n i is k) : insP (key, 0) S = S.take i ++ (key, 0) :: S.drop i := by
  have hin := hf.1
  have ht : ∀ a ∈ S.take i, a.1 < key := fun a ha => by
    obtain ⟨t, h⟩ := List.mem_iff_getElem?.1 ha
    rw [List.getElem?_take] at h
    split at h
    · rename_i hti
      exact hf.2.1 t a hti h
    · cases h
  have hd : ∀ a ∈ S.drop i, key ≤ a.1 ∧ a.2 = 0 := fun a ha => by
    obtain ⟨t, h⟩ := List.mem_iff_getElem?.1 ha
    rw [List.getElem?_drop] at h
    exact ⟨hf.2.2.1 (i + t) a (by omega) h, h0 a (List.mem_of_getElem? h)⟩
  refine insP_of_ord ho ?_ ?_
  · unfold Ord
    rw [List.pairwise_append, List.pairwise_cons]
    refine ⟨List.Pairwise.sublist (List.take_sublist _ _) ho, ⟨fun a ha => ?_, List.Pairwise.sublist (List.drop_sublist _ _) ho⟩, fun a ha b hb => ?_⟩
    · have := hd a ha
      rw [leP_iff]
      simp only
      omega
    · have h1 := ht a ha
      rw [leP_iff]
      rcases List.mem_cons.1 hb with rfl | hb
      · simp only; omega
      · have := hd b hb
        omega
  · refine List.perm_middle.trans ?_
    rw [List.take_append_drop]
theorem isEdits_edits {S : List (Int × Int)} {key : Int} {n i k : Nat} {is : Bool} (hl : S.length = n) (ho : Ord S) (h0 : ∀ x ∈ S, x.2 = 0) (hf : SFound S key n i is k) (j0 : Int) :
    erows (S.map (·.1)) [(0, (i : Int), j0, [key]), (1, (i : Int), (i : Int) + 1, [])] = [(false, (insP (key, 0) S).map (·.1)), (false, S.map (·.1))] := by
  have hin := hf.1
  rw [isEdits_ins ho h0 hf]
  obtain ⟨a, b, c, e, ha, hb⟩ := parts2 (S.map (·.1)) (i := i) (j := i) (Nat.le_refl _) (by rw [List.length_map]; omega)
  obtain rfl : b = [] := List.eq_nil_of_length_eq_zero (by omega)
  have e1 : (S.take i ++ (key, (0 : Int)) :: S.drop i).map (·.1) = a ++ [key] ++ c := by
    rw [List.map_append, List.map_cons, List.map_take, List.map_drop, e, List.append_nil, List.take_left' ha, List.drop_left' ha]
    simp
  rw [e1, e]
  have h1 : editP (a ++ [] ++ c) (0, (i : Int), j0, [key]) = some (a ++ [key] ++ c) := (editP_0 _ _ _ j0).trans (cutP_parts (a := a) (b := []) (c := c) rfl (by omega) (by simp; omega))
  have h2 : editP (a ++ [key] ++ c) (1, (i : Int), (i : Int) + 1, []) = some (a ++ [] ++ c) := (editP_1 _ _ _ _).trans (cutP_parts (a := a) (b := [key]) (c := c) rfl (by omega) (by simp; omega))
  simp only [erows, stepP, outP, h1, h2, Option.getD_some, Option.isNone_some]
/-- What the law's loop meets in round j. -/
theorem isEdits_round {S : List (Int × Int)} {key : Int} {n i k : Nat} {is : Bool} (hl : S.length = n) (ho : Ord S) (h0 : ∀ x ∈ S, x.2 = 0) (hf : SFound S key n i is k) (j0 : Int) {j : Nat} {p b : Bool} {l : List Int} {x : Int × Int} {lk : List (Int × Int)}
    (hd : ((false, ((0 : Int), (0 : Int)), sortP S) :: krows (sortP S) [(0, (key, 0), 0), (2, (key, 0), 0)])[j + 1]? = some (b, x, lk))
    (he : (erows (S.map (·.1)) [(0, (i : Int), j0, [key]), (1, (i : Int), (i : Int) + 1, [])])[j]? = some (p, l)) : p = false ∧ lk.map (·.1) = l ∧ lk.length + j = n + 1 := by
  rw [isEdits_rows _ ho] at hd
  rw [isEdits_edits hl ho h0 hf] at he
  rcases j with _ | _ | j
  · simp at hd he
    obtain ⟨-, -, rfl⟩ := hd
    obtain ⟨rfl, rfl⟩ := he
    exact ⟨rfl, rfl, by rw [insP_length, hl]⟩
  · simp at hd he
    obtain ⟨-, -, rfl⟩ := hd
    obtain ⟨rfl, rfl⟩ := he
    exact ⟨rfl, rfl, by rw [hl]⟩
  · simp at he
theorem zip_zeros {xs : List Int} {n : Nat} : ∀ x ∈ sortP (xs.zip (List.replicate n (0 : Int))), x.2 = 0 := fun x hx => by
  have h := (sortP_perm _).mem_iff.1 hx
  have := (List.of_mem_zip h).2
  exact (List.mem_replicate.1 this).2
end Go.Proofs.Ytecjkonjgmjppaa
