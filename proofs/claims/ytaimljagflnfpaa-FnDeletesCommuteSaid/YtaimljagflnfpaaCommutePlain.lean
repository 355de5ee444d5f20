/- Edits at places that do not touch, in either order; no program in sight. No statement of the seat is proved here. -/
import Derived.Test.YtaimljagflnfpaaEditPlain
namespace Go.Proofs.Ytaimljagflnfpaa

theorem cutP_parts {l a b c vs : List Int} {i j : Int} (h : l = a ++ b ++ c) (hi : i = a.length) (hj : j = (a.length : Int) + b.length) : cutP l i j vs = some (a ++ vs ++ c) := by
  subst h hi hj
  have e : ((a.length : Int) + (b.length : Int)) = ((a ++ b).length : Nat) := by rw [List.length_append]; omega
  rw [e, cutP_some (by rw [List.length_append]; omega) (by simp only [List.length_append]; omega)]
  rw [List.append_assoc a b c, List.take_left' rfl, ← List.append_assoc a b c, List.drop_left' rfl]
/-- A list, cut at two places. -/
theorem parts2 (l : List Int) {i j : Nat} (h : i ≤ j) (h' : j ≤ l.length) : ∃ a b c, l = a ++ b ++ c ∧ a.length = i ∧ b.length = j - i := by
  refine ⟨l.take i, (l.take j).drop i, l.drop j, ?_, by rw [List.length_take]; omega, by rw [List.length_drop, List.length_take]; omega⟩
  have : l.take i = (l.take j).take i := by rw [List.take_take]; congr 1; omega
  rw [this, List.take_append_drop, List.take_append_drop]
theorem parts4 (l : List Int) {i j k m : Nat} (h : i ≤ j) (h1 : j ≤ k) (h2 : k ≤ m) (h3 : m ≤ l.length) : ∃ a b c d e, l = a ++ b ++ c ++ d ++ e ∧ a.length = i ∧ b.length = j - i ∧ c.length = k - j ∧ d.length = m - k := by
  obtain ⟨p, d, e, hl, hp, hd⟩ := parts2 l h2 h3
  obtain ⟨a, b, c, hl', ha, hb⟩ := parts2 p h (by omega)
  refine ⟨a, b, c, d, e, by rw [hl, hl'], ha, hb, ?_, hd⟩
  have := congrArg List.length hl'
  simp only [List.length_append] at this
  omega
theorem stepP_of {l r : List Int} {e : Edt} (h : editP l e = some r) : stepP l e = r := by unfold stepP; rw [h]; rfl

theorem inserts_plain (l x y : List Int) {i k : Nat} (h : i ≤ k) (h' : k ≤ l.length) (j1 j2 j3 j4 : Int) :
    ∃ r, eend l [(0, (k : Int), j1, y), (0, (i : Int), j2, x)] = r ∧ eend l [(0, (i : Int), j3, x), (0, (k : Int) + (x.length : Int), j4, y)] = r ∧ r.length = l.length + x.length + y.length := by
  obtain ⟨a, b, c, rfl, ha, hb⟩ := parts2 l h h'
  refine ⟨a ++ x ++ b ++ y ++ c, ?_, ?_, by simp only [List.length_append]; omega⟩
  · simp only [eend]
    rw [stepP_of ((editP_0 (a ++ b ++ c) y k j1).trans (cutP_parts (a := a ++ b) (b := []) (c := c) (by simp) (by simp [ha, hb]; omega) (by simp [ha, hb]; omega))),
      stepP_of ((editP_0 (a ++ b ++ y ++ c) x i j2).trans (cutP_parts (a := a) (b := []) (c := b ++ y ++ c) (by simp) (by simp [ha]) (by simp [ha])))]
    simp
  · simp only [eend]
    rw [stepP_of ((editP_0 (a ++ b ++ c) x i j3).trans (cutP_parts (a := a) (b := []) (c := b ++ c) (by simp) (by simp [ha]) (by simp [ha]))),
      stepP_of ((editP_0 (a ++ x ++ (b ++ c)) y (k + x.length) j4).trans (cutP_parts (a := a ++ x ++ b) (b := []) (c := c) (by simp) (by simp [ha, hb]; omega) (by simp [ha, hb]; omega)))]
theorem replaces_plain (op : Int) (hop : ∀ l vs i j, editP l (op, i, j, vs) = cutP l i j (if op = 1 then [] else vs)) (l x y : List Int) {i j k m : Nat} (h : i ≤ j) (h1 : j ≤ k) (h2 : k ≤ m) (h3 : m ≤ l.length) (hx : op = 1 → x = []) (hy : op = 1 → y = []) (k' m' : Int)
    (hk : k' = (k : Int) + ((x.length : Int) - ((j : Int) - (i : Int)))) (hm : m' = (m : Int) + ((x.length : Int) - ((j : Int) - (i : Int)))) :
    ∃ r, eend l [(op, (k : Int), (m : Int), y), (op, (i : Int), (j : Int), x)] = r ∧ eend l [(op, (i : Int), (j : Int), x), (op, k', m', y)] = r ∧ (r.length : Int) = (l.length : Int) + ((x.length : Int) - ((j : Int) - (i : Int))) + (y.length : Int) - ((m : Int) - (k : Int)) := by
  subst hk hm
  have hxx : (if op = 1 then [] else x) = x := by split <;> simp_all
  have hyy : (if op = 1 then [] else y) = y := by split <;> simp_all
  obtain ⟨a, b, c, d, e, rfl, ha, hb, hc, hd⟩ := parts4 l h h1 h2 h3
  refine ⟨a ++ x ++ c ++ y ++ e, ?_, ?_, by simp only [List.length_append]; omega⟩
  · simp only [eend]
    rw [stepP_of ((hop (a ++ b ++ c ++ d ++ e) y k m).trans (cutP_parts (a := a ++ b ++ c) (b := d) (c := e) (by simp) (by simp only [List.length_append]; omega) (by simp only [List.length_append]; omega))), hyy,
      stepP_of ((hop (a ++ b ++ c ++ y ++ e) x i j).trans (cutP_parts (a := a) (b := b) (c := c ++ y ++ e) (by simp) (by omega) (by omega))), hxx]
    simp
  · simp only [eend]
    rw [stepP_of ((hop (a ++ b ++ c ++ d ++ e) x i j).trans (cutP_parts (a := a) (b := b) (c := c ++ d ++ e) (by simp) (by omega) (by omega))), hxx,
      stepP_of ((hop (a ++ x ++ (c ++ d ++ e)) y _ _).trans (cutP_parts (a := a ++ x ++ c) (b := d) (c := e) (by simp) (by simp only [List.length_append]; omega) (by simp only [List.length_append]; omega))), hyy]
theorem hop1 : ∀ (l vs : List Int) (i j : Int), editP l (1, i, j, vs) = cutP l i j (if (1 : Int) = 1 then [] else vs) := fun l vs i j => by rw [if_pos rfl]; exact editP_1 l vs i j
theorem hop2 : ∀ (l vs : List Int) (i j : Int), editP l (2, i, j, vs) = cutP l i j (if (2 : Int) = 1 then [] else vs) := fun l vs i j => by rw [if_neg (by decide)]; exact editP_2 l vs i j
end Go.Proofs.Ytaimljagflnfpaa
