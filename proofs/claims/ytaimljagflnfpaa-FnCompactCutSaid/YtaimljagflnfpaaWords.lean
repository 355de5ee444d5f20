/- Words for memory that the contracts of this seat share: a slice that reads as cells, what a call leaves as it was. No statement of the seat is proved here. -/
import Derived.WalkKit
import Derived.WalkSpells
import Derived.WalkLawsBesides
import Derived.Lib.Hide
import Derived.StillTailTactics
import Derived.Deep.AppendLies
import Derived.Deep.QuietTactic
import Derived.BigQuiet
namespace Go.Proofs.Ytaimljagflnfpaa
open Go.RowKit

/-- What was there is as it was; blocks may be new. -/
def Ext (w w' : World) : Prop := Below w.heap.size w w'

theorem Ext.refl (w : World) : Ext w w := Below.refl _ _
theorem Ext.size {a b : World} (h : Ext a b) : a.heap.size ≤ b.heap.size := Below.size h
theorem Ext.trans {a b c : World} (h : Ext a b) (k : Ext b c) : Ext a c :=
  Below.trans (h : Below _ _ _) (Below.mono (k : Below _ _ _) h.size)
theorem Ext.drew {a w : World} (h : Ext a w) : Ext a w.drew := Below.drew h
theorem Ext.drewN {a w : World} (h : Ext a w) (n : Nat) : Ext a (w.drewN n) := by
  have h' : Below a.heap.size a w := h
  exact ⟨h'.os, h'.tape, h'.output, h'.size, h'.block⟩
theorem Ext.alloc {a w : World} (h : Ext a w) (o : Obj) : Ext a (w.alloc o) := Below.alloc h h.size o
theorem Ext.setCell {a w : World} (h : Ext a w) {p : Addr} (hp : a.heap.size ≤ p.block) (u : Value) : Ext a (w.setCell p u) := Below.setCell h hp u
theorem Ext.grown {a w w' : World} {row : Option Nat} (h : Ext a w) (hg : w.grownBy w' row) (hr : ∀ k, row = some k → a.heap.size ≤ k) : Ext a w' := Below.grown h hg h.size hr
theorem Ext.cell {a w : World} (h : Ext a w) {p : Addr} (hp : p.block < a.heap.size) : w.cell? p = a.cell? p := Below.cell h hp
theorem Ext.frozen {a w : World} (h : Ext a w) {p : Addr} (hp : p.block < a.heap.size) : w.frozen? p = a.frozen? p := Below.frozen h hp
theorem Ext.cell_some {a w : World} (h : Ext a w) {p : Addr} {u : Value} (hc : a.cell? p = some u) : w.cell? p = some u :=
  (h.cell (World.block_lt_of_cell? a p hc)).trans hc

/-- The slice value '.slice A n c' reads as the cells cs, sz cells an element. -/
def Row (w : World) (sz : Nat) (A : Option Addr) (n c : Nat) (cs : List Value) : Prop :=
  cs.length = n * sz ∧ n ≤ c ∧ c ≤ maxLen ∧ (0 < n → ∃ b o, A = some ⟨b, o, none⟩ ∧ ∀ j u, cs[j]? = some u → w.cell? ⟨b, o + j, none⟩ = some u)

section
variable {w w' : World} {sz n c : Nat} {A : Option Addr} {cs : List Value}
theorem Row.len (h : Row w sz A n c cs) : cs.length = n * sz := h.1
theorem Row.le (h : Row w sz A n c cs) : n ≤ c := h.2.1
theorem Row.cap (h : Row w sz A n c cs) : c ≤ maxLen := h.2.2.1
theorem Row.lim (h : Row w sz A n c cs) : n ≤ maxLen := Nat.le_trans h.2.1 h.2.2.1
theorem Row.ext (h : Row w sz A n c cs) (k : Ext w w') : Row w' sz A n c cs :=
  ⟨h.1, h.2.1, h.2.2.1, fun hn => by
    obtain ⟨b, o, e, hc⟩ := h.2.2.2 hn
    exact ⟨b, o, e, fun j u hu => k.cell_some (hc j u hu)⟩⟩
theorem Row.nil (w : World) (sz : Nat) : Row w sz none 0 0 [] := ⟨by simp, Nat.le_refl _, Nat.zero_le _, fun h => absurd h (by omega)⟩
theorem Row.own {base : Nat} {e : TypeId} (h : w.ownsRow base e sz (.slice A n c) n cs) : Row w sz A n c cs := by
  obtain ⟨hl, h2⟩ := h
  rcases h2 with ⟨hv, h0⟩ | ⟨g, cap, cur, hv, _, hg, hnc, hcm, hsz, ht⟩
  · injection hv with h1 h2 h3
    subst h1 h0 h3
    exact ⟨hl, Nat.zero_le _, Nat.zero_le _, fun h => absurd h (by omega)⟩
  · injection hv with h1 h2 h3
    subst h1 h3
    refine ⟨hl, hnc, hcm, fun _ => ⟨g, 0, rfl, fun j u hu => ?_⟩⟩
    subst ht
    have hj : j < n * sz := by
      have := (List.getElem?_eq_some_iff.1 hu).1
      rw [List.length_take] at this
      omega
    rw [List.getElem?_take_of_lt hj] at hu
    simp only [World.cell?, hg, Nat.zero_add]
    simpa using hu
end

/-- Every owned value is a slice. -/
theorem own_form {w : World} {base : Nat} {e : TypeId} {sz n : Nat} {v : Value} {cs : List Value} (h : w.ownsRow base e sz v n cs) :
    ∃ A c, v = .slice A n c ∧ Row w sz A n c cs := by
  have h0 := h
  rcases h.2 with ⟨rfl, rfl⟩ | ⟨g, cap, cur, rfl, _⟩
  · exact ⟨none, 0, rfl, Row.own h0⟩
  · exact ⟨_, cap, rfl, Row.own h0⟩

def ints (xs : List Int) : List Value := xs.map (Value.int .i64)
def its (xs : List (Int × Int)) : List Value := xs.flatMap fun x => [.int .i64 x.1, .int .i64 x.2]

theorem ints_length (xs : List Int) : (ints xs).length = xs.length := by simp [ints]
theorem ints_append (xs ys : List Int) : ints (xs ++ ys) = ints xs ++ ints ys := by simp [ints]
theorem ints_get (xs : List Int) (j : Nat) : (ints xs)[j]? = xs[j]?.map (Value.int .i64) := by simp [ints]
theorem ints_one (xs : List Int) : ∀ u ∈ ints xs, u.oneCell' = true := by
  intro u hu
  obtain ⟨x, _, rfl⟩ := List.mem_map.1 hu
  rfl
theorem its_nil : its [] = [] := rfl
theorem its_cons (x : Int × Int) (xs : List (Int × Int)) : its (x :: xs) = .int .i64 x.1 :: .int .i64 x.2 :: its xs := rfl
theorem its_append (xs ys : List (Int × Int)) : its (xs ++ ys) = its xs ++ its ys := by simp [its]
theorem its_length (xs : List (Int × Int)) : (its xs).length = xs.length * 2 := by
  induction xs with
  | nil => rfl
  | cons x xs ih => rw [its_cons, List.length_cons, List.length_cons, ih, List.length_cons]; omega
theorem its_get (xs : List (Int × Int)) (i : Nat) : (its xs)[i * 2]? = xs[i]?.map (fun x => Value.int .i64 x.1) ∧ (its xs)[i * 2 + 1]? = xs[i]?.map (fun x => Value.int .i64 x.2) := by
  induction xs generalizing i with
  | nil => simp [its]
  | cons x xs ih =>
    rw [its_cons]
    cases i with
    | zero => simp
    | succ i =>
      have e1 : (i + 1) * 2 = i * 2 + 1 + 1 := by omega
      rw [e1]
      simp only [List.getElem?_cons_succ]
      exact ih i
theorem its_one (xs : List (Int × Int)) : ∀ u ∈ its xs, u.oneCell' = true := by
  intro u hu
  obtain ⟨x, _, hx⟩ := List.mem_flatMap.1 hu
  simp at hx
  rcases hx with rfl | rfl <;> rfl
theorem its_take (xs : List (Int × Int)) (k : Nat) : (its xs).take (k * 2) = its (xs.take k) := by
  induction xs generalizing k with
  | nil => simp [its]
  | cons x xs ih =>
    cases k with
    | zero => simp [its]
    | succ k =>
      have e1 : (k + 1) * 2 = k * 2 + 1 + 1 := by omega
      rw [e1, its_cons, List.take_succ_cons, List.take_succ_cons, List.take_succ_cons, its_cons, ih]
theorem its_drop (xs : List (Int × Int)) (k : Nat) : (its xs).drop (k * 2) = its (xs.drop k) := by
  induction xs generalizing k with
  | nil => simp [its]
  | cons x xs ih =>
    cases k with
    | zero => simp
    | succ k =>
      have e1 : (k + 1) * 2 = k * 2 + 1 + 1 := by omega
      rw [e1, its_cons, List.drop_succ_cons, List.drop_succ_cons, List.drop_succ_cons, ih]

section
variable {w : World} {n c : Nat} {A : Option Addr}
/-- An element of a slice of integers, at an address that is written out. -/
theorem Row.int_at {xs : List Int} (h : Row w 1 A n c (ints xs)) {k : Nat} (hk : k < n) :
    ∃ b o x, A = some ⟨b, o, none⟩ ∧ Hid (xs[k]? = some x) ∧ w.cell? ⟨b, o + k, none⟩ = some (.int .i64 x) := by
  have hl : xs.length = n := by have := h.1; rw [ints_length] at this; omega
  obtain ⟨b, o, e, hc⟩ := h.2.2.2 (by omega)
  have hx : xs[k]? = some xs[k] := List.getElem?_eq_getElem (by omega)
  refine ⟨b, o, xs[k], e, hx, hc k _ ?_⟩
  rw [ints_get, hx]
  rfl
theorem Row.item_at {xs : List (Int × Int)} (h : Row w 2 A n c (its xs)) {k : Nat} (hk : k < n) :
    ∃ b o x y, A = some ⟨b, o, none⟩ ∧ Hid (xs[k]? = some (x, y)) ∧ w.cell? ⟨b, o + k * 2, none⟩ = some (.int .i64 x) ∧ w.cell? ⟨b, o + k * 2 + 1, none⟩ = some (.int .i64 y) := by
  have hl : xs.length = n := by have := h.1; rw [its_length] at this; omega
  obtain ⟨b, o, e, hc⟩ := h.2.2.2 (by omega)
  have hg := its_get xs k
  have hx : xs[k]? = some (xs[k].1, xs[k].2) := List.getElem?_eq_getElem (by omega)
  rw [hx] at hg
  exact ⟨b, o, _, _, e, hx, hc _ _ hg.1, by rw [Nat.add_assoc]; exact hc _ _ hg.2⟩
theorem Row.ints_len {xs : List Int} (h : Row w 1 A n c (ints xs)) : xs.length = n := by have := h.1; rw [ints_length] at this; omega
theorem Row.its_len {xs : List (Int × Int)} (h : Row w 2 A n c (its xs)) : xs.length = n := by have := h.1; rw [its_length] at this; omega
end

theorem take_snoc {α : Type} {l : List α} {k : Nat} {x : α} (h : l[k]? = some x) : l.take (k + 1) = l.take k ++ [x] := by
  rw [List.take_add_one, h]
  rfl
theorem zip_get {α β : Type} {l : List α} {r : List β} {k : Nat} {x : α} {y : β} (h : l[k]? = some x) (h' : r[k]? = some y) : (l.zip r)[k]? = some (x, y) := by
  rw [List.getElem?_zip_eq_some]
  exact ⟨h, h'⟩

theorem ret_int {k : IntKind} {a b : Int} (h : a = b) : Ending.returned (.int k a) = .returned (.int k b) := by rw [h]
end Go.Proofs.Ytaimljagflnfpaa
