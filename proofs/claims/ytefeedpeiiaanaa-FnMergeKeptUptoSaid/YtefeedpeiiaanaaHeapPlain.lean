/- Plain: the steps of a heap on lists, as container/heap makes them. No statement of the seat is proved here. -/
import Derived.Test.YtefeedpeiiaanaaSortPlain
namespace Go.Proofs.Ytefeedpeiiaanaa

def ltP (a b : Int × Int) : Bool := !leP b a
theorem ltP_iff (a b : Int × Int) : ltP a b = true ↔ (a.1 < b.1 ∨ (a.1 = b.1 ∧ a.2 < b.2)) := by
  simp only [ltP, Bool.not_eq_true', leP_false]
  omega
theorem ltP_false (a b : Int × Int) : ltP a b = false ↔ leP b a = true := by simp [ltP]

/-- The item at a place. -/
def at0 (L : List (Int × Int)) (i : Nat) : Int × Int := L.getD i (0, 0)
def swapL (L : List (Int × Int)) (i j : Nat) : List (Int × Int) := (L.set i (at0 L j)).set j (at0 L i)
theorem swapL_length (L : List (Int × Int)) (i j : Nat) : (swapL L i j).length = L.length := by simp [swapL]

/-- container/heap.up, as many rounds as f at most. -/
def upL : Nat → List (Int × Int) → Nat → List (Int × Int)
  | 0, L, _ => L
  | f + 1, L, j => if (j - 1) / 2 = j then L else if ltP (at0 L j) (at0 L ((j - 1) / 2)) then upL f (swapL L ((j - 1) / 2) j) ((j - 1) / 2) else L
/-- The child that down goes to. -/
def childL (L : List (Int × Int)) (i n : Nat) : Nat := if 2 * i + 2 < n ∧ ltP (at0 L (2 * i + 2)) (at0 L (2 * i + 1)) = true then 2 * i + 2 else 2 * i + 1
/-- container/heap.down: the list, and where it has come to. -/
def downL : Nat → List (Int × Int) → Nat → Nat → List (Int × Int) × Nat
  | 0, L, i, _ => (L, i)
  | f + 1, L, i, n => if n ≤ 2 * i + 1 then (L, i) else if ltP (at0 L (childL L i n)) (at0 L i) then downL f (swapL L i (childL L i n)) (childL L i n) n else (L, i)

theorem upL_length : ∀ (f : Nat) (L : List (Int × Int)) (j : Nat), (upL f L j).length = L.length
  | 0, _, _ => rfl
  | f + 1, L, j => by
    unfold upL
    split
    · rfl
    · split
      · rw [upL_length f, swapL_length]
      · rfl
theorem downL_length : ∀ (f : Nat) (L : List (Int × Int)) (i n : Nat), (downL f L i n).1.length = L.length
  | 0, _, _, _ => rfl
  | f + 1, L, i, n => by
    unfold downL
    split
    · rfl
    · split
      · rw [downL_length f, swapL_length]
      · rfl

/-- heap.Init: down from i - 1 to 0. -/
def initFrom : Nat → List (Int × Int) → List (Int × Int)
  | 0, L => L
  | i + 1, L => initFrom i (downL L.length L i L.length).1
def initL (L : List (Int × Int)) : List (Int × Int) := initFrom (L.length / 2) L
def pushL (L : List (Int × Int)) (x : Int × Int) : List (Int × Int) := upL (L.length + 1) (L ++ [x]) L.length
/-- down, and up if nothing has moved. -/
def fixAt (L : List (Int × Int)) (i n : Nat) : List (Int × Int) :=
  if i < (downL n L i n).2 then (downL n L i n).1 else upL (i + 1) (downL n L i n).1 i
def popL (L : List (Int × Int)) : List (Int × Int) := (downL (L.length - 1) (swapL L 0 (L.length - 1)) 0 (L.length - 1)).1
/-- The list behind heap.Remove ahead of its last Pop. -/
def removeL (L : List (Int × Int)) (i : Nat) : List (Int × Int) := if L.length - 1 = i then L else fixAt (swapL L i (L.length - 1)) i (L.length - 1)
theorem initFrom_length : ∀ (i : Nat) (L : List (Int × Int)), (initFrom i L).length = L.length
  | 0, _ => rfl
  | i + 1, L => by unfold initFrom; rw [initFrom_length i, downL_length]
theorem initL_length (L : List (Int × Int)) : (initL L).length = L.length := initFrom_length _ _
theorem pushL_length (L : List (Int × Int)) (x : Int × Int) : (pushL L x).length = L.length + 1 := by simp [pushL, upL_length]
theorem fixAt_length (L : List (Int × Int)) (i n : Nat) : (fixAt L i n).length = L.length := by unfold fixAt; split <;> simp [upL_length, downL_length]
theorem popL_length (L : List (Int × Int)) : (popL L).length = L.length := by simp [popL, downL_length, swapL_length]
theorem removeL_length (L : List (Int × Int)) (i : Nat) : (removeL L i).length = L.length := by unfold removeL; split <;> simp [fixAt_length, swapL_length]

/-! ### The same items -/
theorem swapL_perm {L : List (Int × Int)} {i j : Nat} (hi : i < L.length) (hj : j < L.length) : (swapL L i j).Perm L := by
  have e1 : at0 L i = L[i] := by simp [at0, hi]
  have e2 : at0 L j = L[j] := by simp [at0, hj]
  unfold swapL
  rw [e1, e2]
  exact List.set_set_perm hi hj
theorem childL_lt {L : List (Int × Int)} {i n : Nat} (h : 2 * i + 1 < n) : childL L i n < n ∧ i < childL L i n := by
  unfold childL
  split <;> omega
theorem upL_perm : ∀ (f : Nat) (L : List (Int × Int)) (j : Nat), j < L.length → (upL f L j).Perm L
  | 0, _, _, _ => List.Perm.refl _
  | f + 1, L, j, h => by
    unfold upL
    split
    · exact List.Perm.refl _
    · split
      · exact (upL_perm f _ _ (by rw [swapL_length]; omega)).trans (swapL_perm (by omega) h)
      · exact List.Perm.refl _
theorem downL_perm : ∀ (f : Nat) (L : List (Int × Int)) (i n : Nat), n ≤ L.length → (downL f L i n).1.Perm L
  | 0, _, _, _, _ => List.Perm.refl _
  | f + 1, L, i, n, h => by
    unfold downL
    split
    · exact List.Perm.refl _
    · rename_i h1
      have hc := childL_lt (L := L) (i := i) (n := n) (by omega)
      split
      · exact (downL_perm f _ _ _ (by rw [swapL_length]; exact h)).trans (swapL_perm (by omega) (by omega))
      · exact List.Perm.refl _
theorem downL_ge : ∀ (f : Nat) (L : List (Int × Int)) (i n : Nat), i ≤ (downL f L i n).2
  | 0, _, _, _ => Nat.le_refl _
  | f + 1, L, i, n => by
    unfold downL
    split
    · exact Nat.le_refl _
    · rename_i h1
      have hc := childL_lt (L := L) (i := i) (n := n) (by omega)
      split
      · have := downL_ge f (swapL L i (childL L i n)) (childL L i n) n; omega
      · exact Nat.le_refl _
theorem initFrom_perm : ∀ (i : Nat) (L : List (Int × Int)), (initFrom i L).Perm L
  | 0, _ => List.Perm.refl _
  | i + 1, L => by unfold initFrom; exact (initFrom_perm i _).trans (downL_perm _ _ _ _ (Nat.le_refl _))
theorem initL_perm (L : List (Int × Int)) : (initL L).Perm L := initFrom_perm _ _
theorem pushL_perm (L : List (Int × Int)) (x : Int × Int) : (pushL L x).Perm (x :: L) := by
  refine (upL_perm _ _ _ (by simp)).trans ?_
  exact List.perm_append_singleton x L
theorem fixAt_perm (L : List (Int × Int)) (i n : Nat) (hi : i < L.length) (hn : n ≤ L.length) : (fixAt L i n).Perm L := by
  unfold fixAt
  split
  · exact downL_perm _ _ _ _ hn
  · exact (upL_perm _ _ _ (by rw [downL_length]; exact hi)).trans (downL_perm _ _ _ _ hn)
end Go.Proofs.Ytefeedpeiiaanaa
