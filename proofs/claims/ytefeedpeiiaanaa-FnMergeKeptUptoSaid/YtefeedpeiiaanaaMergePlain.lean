/- Plain: merging two lists in order. No statement of the seat is proved here. -/
import Derived.Test.YtefeedpeiiaanaaAnyPlain
namespace Go.Proofs.Ytefeedpeiiaanaa

/-- The next item that merging gives, and what is left of both lists. -/
def takeP (p q : List (Int × Int)) : Bool :=
  match p, q with
  | _, [] => true
  | [], _ :: _ => false
  | a :: _, b :: _ => leP a b
/-- Two lists in order that together have the items of a list in order: its first item is the one that merging takes. -/
theorem merge_left {q : List (Int × Int)} {a s : Int × Int} {p' S' : List (Int × Int)} (hp : Ord (a :: p')) (hS : Ord (s :: S')) (hm : (a :: p' ++ q).Perm (s :: S')) (hq : Ord q) (ht : takeP (a :: p') q = true) : s = a ∧ (p' ++ q).Perm S' := by
  have ha : ∀ x ∈ a :: p' ++ q, leP a x = true := by
    intro x hx
    rcases List.mem_append.1 hx with h | h
    · rcases List.mem_cons.1 h with rfl | h
      · exact leP_refl _
      · exact List.rel_of_pairwise_cons hp h
    · cases q with
      | nil => cases h
      | cons b q' =>
        have hab : leP a b = true := ht
        rcases List.mem_cons.1 h with rfl | h
        · exact hab
        · exact leP_trans hab (List.rel_of_pairwise_cons hq h)
  have hs : leP a s = true := ha s (hm.mem_iff.2 (by simp))
  have hs2 : a ∈ s :: S' := hm.mem_iff.1 (by simp)
  have e : s = a := by
    rcases List.mem_cons.1 hs2 with h | h
    · exact h.symm
    · exact leP_anti (List.rel_of_pairwise_cons hS h) hs
  subst e
  have hm2 : (s :: (p' ++ q)).Perm (s :: S') := hm
  exact ⟨rfl, List.Perm.cons_inv hm2⟩
theorem merge_right {p q' S' : List (Int × Int)} {b s : Int × Int} (hp : Ord p) (hS : Ord (s :: S')) (hm : (p ++ b :: q').Perm (s :: S')) (hq : Ord (b :: q')) (ht : takeP p (b :: q') = false) : s = b ∧ (p ++ q').Perm S' := by
  have hm2 : (b :: (p ++ q')).Perm (s :: S') := List.perm_middle.symm.trans hm
  have ha : ∀ x ∈ b :: (p ++ q'), leP b x = true := by
    intro x hx
    rcases List.mem_cons.1 hx with rfl | h
    · exact leP_refl _
    · rcases List.mem_append.1 h with h | h
      · cases p with
        | nil => cases h
        | cons a p' =>
          have hab : leP a b = false := ht
          have hba : leP b a = true := by
            rcases leP_total a b with h3 | h3
            · rw [h3] at hab; cases hab
            · exact h3
          rcases List.mem_cons.1 h with rfl | h
          · exact hba
          · exact leP_trans hba (List.rel_of_pairwise_cons hp h)
      · exact List.rel_of_pairwise_cons hq h
  have hs : leP b s = true := ha s (hm2.mem_iff.2 (by simp))
  have hs2 : b ∈ s :: S' := hm2.mem_iff.1 (by simp)
  have e : s = b := by
    rcases List.mem_cons.1 hs2 with h | h
    · exact h.symm
    · exact leP_anti (List.rel_of_pairwise_cons hS h) hs
  subst e
  exact ⟨rfl, List.Perm.cons_inv hm2⟩
/-- What a heap of a list gives at the i-th pop. -/
theorem pops_like {L : List (Int × Int)} {n i : Nat} {x : Int × Int} {d : DEnt} (hl : L.length = n) (hx : (sortP L)[i]? = some x) (hd : (qall L (pops n))[i + 1]? = some d) : d.1 = true ∧ d.2.1 = x := by
  have h := pop_like (L := L) (n := n) (k := n) (i := i) (d := d) hl (Nat.le_refl _) hx (by
    have e1 : L.take n = L := List.take_of_length_le (by omega)
    have e2 : L.drop n = [] := List.drop_of_length_le (by omega)
    rw [e1, e2, Nat.sub_self, show 0 + 1 + i = i + 1 by omega]
    exact hd)
  exact ⟨h.1, h.2.1⟩
end Go.Proofs.Ytefeedpeiiaanaa
