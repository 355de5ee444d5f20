/- Words for the rows that impl.Kept and impl.Queue return. No statement of the seat is proved here. -/
import Derived.Test.YtefeedpeiiaanaaItems
import Derived.Test.YtefeedpeiiaanaaLaws3
namespace Go.Proofs.Ytefeedpeiiaanaa
open Go.RowKit

theorem elDone : El Try.prog 31 34 4 48 := El.mk' (z := .agg #[.bool false, .int .i64 0, .int .i64 0, .slice none 0 0]) Try.underlying31 (by kernel_rfl) rfl (by decide)

/-- What a Done tells: whether the step was made, the item, the list. -/
abbrev DEnt := Bool × (Int × Int) × List (Int × Int)
def dcell (d : DEnt) (v : Value) : List Value := [.bool d.1, .int .i64 d.2.1.1, .int .i64 d.2.1.2, v]
def dcells : List DEnt → List Value → List Value
  | d :: D, v :: vs => dcell d v ++ dcells D vs
  | _, _ => []
theorem dcells_length (D : List DEnt) (vs : List Value) (h : vs.length = D.length) : (dcells D vs).length = D.length * 4 := by
  induction D generalizing vs with
  | nil => simp [dcells]
  | cons d D ih =>
    cases vs with
    | nil => simp at h
    | cons v vs => simp only [dcells, List.length_append, dcell, List.length_cons, List.length_nil, ih vs (by simpa using h)]; omega
theorem dcells_snoc (D : List DEnt) (vs : List Value) (h : vs.length = D.length) (d : DEnt) (v : Value) : dcells (D ++ [d]) (vs ++ [v]) = dcells D vs ++ dcell d v := by
  induction D generalizing vs with
  | nil =>
    cases vs with
    | nil => simp [dcells]
    | cons v vs => simp at h
  | cons e D ih =>
    cases vs with
    | nil => simp at h
    | cons u vs => simp only [List.cons_append, dcells, ih vs (by simpa using h), List.append_assoc]
theorem dcells_get (D : List DEnt) (vs : List Value) (i : Nat) (d : DEnt) (v : Value) (hd : D[i]? = some d) (hv : vs[i]? = some v) :
    (dcells D vs)[i * 4]? = some (.bool d.1) ∧ (dcells D vs)[i * 4 + 1]? = some (.int .i64 d.2.1.1) ∧ (dcells D vs)[i * 4 + 2]? = some (.int .i64 d.2.1.2) ∧ (dcells D vs)[i * 4 + 3]? = some v := by
  induction i generalizing D vs with
  | zero =>
    cases D with
    | nil => simp at hd
    | cons e D =>
      cases vs with
      | nil => simp at hv
      | cons u vs =>
        simp at hd hv
        subst hd hv
        simp [dcells, dcell]
  | succ i ih =>
    cases D with
    | nil => simp at hd
    | cons e D =>
      cases vs with
      | nil => simp at hv
      | cons u vs =>
        have := ih D vs (by simpa using hd) (by simpa using hv)
        have e4 : (i + 1) * 4 = i * 4 + 1 + 1 + 1 + 1 := by omega
        rw [e4]
        simp only [dcells, dcell, List.cons_append, List.nil_append]
        have f : ∀ j, (Value.bool e.1 :: Value.int .i64 e.2.1.1 :: Value.int .i64 e.2.1.2 :: u :: dcells D vs)[j + 1 + 1 + 1 + 1]? = (dcells D vs)[j]? := fun j => by simp
        refine ⟨by rw [f]; exact this.1, ?_, ?_, ?_⟩
        · rw [show i * 4 + 1 + 1 + 1 + 1 + 1 = (i * 4 + 1) + 1 + 1 + 1 + 1 by omega, f]; exact this.2.1
        · rw [show i * 4 + 1 + 1 + 1 + 1 + 2 = (i * 4 + 2) + 1 + 1 + 1 + 1 by omega, f]; exact this.2.2.1
        · rw [show i * 4 + 1 + 1 + 1 + 1 + 3 = (i * 4 + 3) + 1 + 1 + 1 + 1 by omega, f]; exact this.2.2.2

/-- A slice of items in a block of items other than the given one. -/
def RowOff (w : World) (row : Option Nat) (xs : List (Int × Int)) (v : Value) : Prop :=
  ∃ B q, v = .slice B xs.length q ∧ Row w 2 B xs.length q (its xs) ∧ ∀ b o, B = some ⟨b, o, none⟩ → row ≠ some b ∧ ∃ cs, w.heap[b]? = some (.cells cs 28 (0, 0))
theorem RowOff.keep {w w' : World} {row row' other : Option Nat} {xs : List (Int × Int)} {v : Value} (h : RowOff w row xs v) (hg : w.grownBy w' other) (ho : ∀ b cs, w.heap[b]? = some (.cells cs 28 (0, 0)) → row ≠ some b → other ≠ some b) (hn : row' = row ∨ ∃ g, row' = some g ∧ w.heap.size ≤ g) : RowOff w' row' xs v := by
  obtain ⟨B, q, rfl, hr, hb⟩ := h
  refine ⟨B, q, rfl, ⟨hr.1, hr.2.1, hr.2.2.1, fun h0 => ?_⟩, fun b o he => ?_⟩
  · obtain ⟨b, o, e, hc⟩ := hr.2.2.2 h0
    obtain ⟨h1, cs, h2⟩ := hb b o e
    exact ⟨b, o, e, fun j u hu => hg.cell (hc j u hu) (Ne.symm (ho b cs h2 h1))⟩
  · obtain ⟨h1, cs, h2⟩ := hb b o he
    refine ⟨?_, cs, blk_grown hg h2 (ho b cs h2 h1)⟩
    rcases hn with h | ⟨g, h, hg2⟩
    · rw [h]; exact h1
    · rw [h]; intro e; injection e with e; have := blk_lt h2; omega
theorem RowOff.ext {w w' : World} {row : Option Nat} {xs : List (Int × Int)} {v : Value} (h : RowOff w row xs v) (hx : Ext w w') : RowOff w' row xs v :=
  h.keep (grown_of_ext hx none) (fun _ _ _ _ => by simp) (.inl rfl)
theorem RowOff.own {w : World} {base n c : Nat} {A : Option Addr} {xs : List (Int × Int)} {row : Option Nat} (h : w.ownsRow base 28 2 (.slice A n c) n (its xs)) (hne : row ≠ (Value.slice A n c).ownBlock ∨ A = none) : RowOff w row xs (.slice A n c) := by
  have hl : xs.length = n := by have := h.1; rw [its_length] at this; omega
  subst hl
  refine ⟨A, c, rfl, Row.own h, fun b o he => ?_⟩
  subst he
  rcases h.2 with ⟨hv, _⟩ | ⟨g, cap, cur, hv, _, hg, _⟩
  · cases hv
  · injection hv with h1
    injection h1 with h1
    injection h1 with h1 h2
    subst h1
    refine ⟨?_, cur, hg⟩
    rcases hne with h | h
    · exact h
    · cases h

/-- What a []Done reads as. -/
def Dones (w : World) (A : Option Addr) (n c : Nat) (D : List DEnt) : Prop :=
  ∃ vs : List Value, vs.length = D.length ∧ Row w 4 A n c (dcells D vs) ∧ ∀ (i : Nat) (d : DEnt), D[i]? = some d → ∃ B q, vs[i]? = some (.slice B d.2.2.length q) ∧ Row w 2 B d.2.2.length q (its d.2.2)
theorem Dones.ext {w w' : World} {A : Option Addr} {n c : Nat} {D : List DEnt} (h : Dones w A n c D) (k : Ext w w') : Dones w' A n c D := by
  obtain ⟨vs, hl, hr, hi⟩ := h
  refine ⟨vs, hl, hr.ext k, fun i d hd => ?_⟩
  obtain ⟨B, q, h1, h2⟩ := hi i d hd
  exact ⟨B, q, h1, h2.ext k⟩
theorem Dones.len {w : World} {A : Option Addr} {n c : Nat} {D : List DEnt} (h : Dones w A n c D) : D.length = n := by
  obtain ⟨vs, hl, hr, _⟩ := h
  have := hr.1
  rw [dcells_length D vs hl] at this
  omega
theorem Dones.lim {w : World} {A : Option Addr} {n c : Nat} {D : List DEnt} (h : Dones w A n c D) : n ≤ maxLen := by
  obtain ⟨vs, _, hr, _⟩ := h
  exact hr.lim
theorem Dones.at_ {w : World} {A : Option Addr} {n c : Nat} {D : List DEnt} (h : Dones w A n c D) {k : Nat} (hk : k < n) :
    ∃ b o is x1 x2 l B q, A = some ⟨b, o, none⟩ ∧ Hid (D[k]? = some (is, (x1, x2), l)) ∧ w.cell? ⟨b, o + k * 4, none⟩ = some (.bool is) ∧ w.cell? ⟨b, o + k * 4 + 1, none⟩ = some (.int .i64 x1) ∧ w.cell? ⟨b, o + k * 4 + 1 + 1, none⟩ = some (.int .i64 x2) ∧
      w.cell? ⟨b, o + k * 4 + 3, none⟩ = some (.slice B (List.length l) q) ∧ Hid (Row w 2 B l.length q (its l)) := by
  have hl := h.len
  obtain ⟨vs, hvl, hr, hi⟩ := h
  obtain ⟨b, o, e, hc⟩ := hr.2.2.2 (by omega)
  have hd : D[k]? = some D[k] := List.getElem?_eq_getElem (by omega)
  obtain ⟨B, q, h1, h2⟩ := hi k _ hd
  obtain ⟨g0, g1, g2, g3⟩ := dcells_get D vs k _ _ hd h1
  exact ⟨b, o, D[k].1, D[k].2.1.1, D[k].2.1.2, D[k].2.2, B, q, e, hd, hc _ _ g0, by rw [Nat.add_assoc]; exact hc _ _ g1, by rw [Nat.add_assoc, Nat.add_assoc]; exact hc _ _ g2, by rw [Nat.add_assoc]; exact hc _ _ g3, h2⟩
end Go.Proofs.Ytefeedpeiiaanaa
