/- Words for slices of records that hold one slice of integers each: scripts of edits, and the rows that impl.Edits returns. No statement of the seat is proved here. -/
import Derived.Test.YtaimljagflnfpaaInt
import Derived.Test.YtaimljagflnfpaaEditPlain
namespace Go.Proofs.Ytaimljagflnfpaa
open Go.RowKit

theorem elEdit : El Try.prog 30 29 4 48 := El.mk' (z := .agg #[.int .i64 0, .int .i64 0, .int .i64 0, .slice none 0 0]) Try.underlying30 (by kernel_rfl) rfl (by decide)
theorem elERow : El Try.prog 37 41 3 40 := El.mk' (z := .agg #[.bool false, .slice none 0 0, .bool false]) Try.underlying37 (by kernel_rfl) rfl (by decide)

section
variable {α : Type}
/-- The cells of records, one behind the other. -/
def recCells (cell : α → Value → List Value) : List α → List Value → List Value
  | d :: D, v :: vs => cell d v ++ recCells cell D vs
  | _, _ => []
variable {cell : α → Value → List Value} {lst : α → List Int} {sz : Nat}
theorem recCells_length (hc : ∀ d v, (cell d v).length = sz) (D : List α) (vs : List Value) (h : vs.length = D.length) : (recCells cell D vs).length = D.length * sz := by
  induction D generalizing vs with
  | nil => simp [recCells]
  | cons d D ih =>
    cases vs with
    | nil => simp at h
    | cons v vs =>
      simp only [recCells, List.length_append, hc, List.length_cons, ih vs (by simpa using h)]
      rw [Nat.add_mul, Nat.one_mul, Nat.add_comm]
theorem recCells_snoc (D : List α) (vs : List Value) (h : vs.length = D.length) (d : α) (v : Value) : recCells cell (D ++ [d]) (vs ++ [v]) = recCells cell D vs ++ cell d v := by
  induction D generalizing vs with
  | nil =>
    cases vs with
    | nil => simp [recCells]
    | cons v vs => simp at h
  | cons e D ih =>
    cases vs with
    | nil => simp at h
    | cons u vs => simp only [List.cons_append, recCells, ih vs (by simpa using h), List.append_assoc]
theorem recCells_get (hc : ∀ d v, (cell d v).length = sz) (D : List α) (vs : List Value) (i : Nat) (d : α) (v : Value) (hd : D[i]? = some d) (hv : vs[i]? = some v) (t : Nat) (ht : t < sz) : (recCells cell D vs)[i * sz + t]? = (cell d v)[t]? := by
  induction i generalizing D vs with
  | zero =>
    cases D with
    | nil => simp at hd
    | cons e D =>
      cases vs with
      | nil => simp at hv
      | cons u vs =>
        simp at hd hv
        subst hd hv
        simp only [recCells, Nat.zero_mul, Nat.zero_add]
        rw [List.getElem?_append_left (by rw [hc]; exact ht)]
  | succ i ih =>
    cases D with
    | nil => simp at hd
    | cons e D =>
      cases vs with
      | nil => simp at hv
      | cons u vs =>
        have := ih D vs (by simpa using hd) (by simpa using hv)
        simp only [recCells]
        rw [List.getElem?_append_right (by rw [hc, Nat.add_mul]; omega), hc, ← this]
        congr 1
        rw [Nat.add_mul]
        omega

/-- What a slice of records reads as. -/
def Recs (cell : α → Value → List Value) (lst : α → List Int) (sz : Nat) (w : World) (A : Option Addr) (n c : Nat) (D : List α) : Prop :=
  ∃ vs : List Value, vs.length = D.length ∧ Row w sz A n c (recCells cell D vs) ∧ ∀ (i : Nat) (d : α), D[i]? = some d → ∃ B q, vs[i]? = some (.slice B (lst d).length q) ∧ Row w 1 B (lst d).length q (ints (lst d))
theorem Recs.ext {w w' : World} {A : Option Addr} {n c : Nat} {D : List α} (h : Recs cell lst sz w A n c D) (k : Ext w w') : Recs cell lst sz w' A n c D := by
  obtain ⟨vs, hl, hr, hi⟩ := h
  refine ⟨vs, hl, hr.ext k, fun i d hd => ?_⟩
  obtain ⟨B, q, h1, h2⟩ := hi i d hd
  exact ⟨B, q, h1, h2.ext k⟩
theorem Recs.len {w : World} {A : Option Addr} {n c : Nat} {D : List α} (hc : ∀ d v, (cell d v).length = sz) (h0 : 0 < sz) (h : Recs cell lst sz w A n c D) : D.length = n := by
  obtain ⟨vs, hl, hr, _⟩ := h
  have := hr.1
  rw [recCells_length hc D vs hl] at this
  exact Nat.eq_of_mul_eq_mul_right h0 this
theorem Recs.lim {w : World} {A : Option Addr} {n c : Nat} {D : List α} (h : Recs cell lst sz w A n c D) : n ≤ maxLen := by
  obtain ⟨vs, _, hr, _⟩ := h
  exact hr.lim
theorem Recs.at_ {w : World} {A : Option Addr} {n c : Nat} {D : List α} (hc : ∀ d v, (cell d v).length = sz) (h0 : 0 < sz) (h : Recs cell lst sz w A n c D) {k : Nat} (hk : k < n) :
    ∃ b o d B q, A = some ⟨b, o, none⟩ ∧ D[k]? = some d ∧ (∀ t u, (cell d (.slice B (lst d).length q))[t]? = some u → w.cell? ⟨b, o + (k * sz + t), none⟩ = some u) ∧ Row w 1 B (lst d).length q (ints (lst d)) := by
  have hl := h.len hc h0
  obtain ⟨vs, hvl, hr, hi⟩ := h
  obtain ⟨b, o, e, hcell⟩ := hr.2.2.2 (by omega)
  have hd : D[k]? = some D[k] := List.getElem?_eq_getElem (by omega)
  obtain ⟨B, q, h1, h2⟩ := hi k _ hd
  refine ⟨b, o, D[k], B, q, e, hd, fun t u hu => hcell _ _ ?_, h2⟩
  have ht : t < sz := by
    have := (List.getElem?_eq_some_iff.1 hu).1
    rw [hc] at this
    exact this
  rw [recCells_get hc D vs k _ _ hd h1 t ht]
  exact hu

/-- A slice of integers in a block of integers other than the given one. -/
def OffI (w : World) (row : Option Nat) (xs : List Int) (v : Value) : Prop :=
  ∃ B q, v = .slice B xs.length q ∧ Row w 1 B xs.length q (ints xs) ∧ ∀ b o, B = some ⟨b, o, none⟩ → row ≠ some b ∧ ∃ cs, w.heap[b]? = some (.cells cs 3 (0, 0))
/-- What grows is no block of integers. -/
def NotInt (w : World) (row : Option Nat) : Prop := ∀ b cs, w.heap[b]? = some (.cells cs 3 (0, 0)) → row ≠ some b
theorem OffI.keep {w w' : World} {row row' other : Option Nat} {xs : List Int} {v : Value} (h : OffI w row xs v) (hg : w.grownBy w' other) (ho : ∀ b cs, w.heap[b]? = some (.cells cs 3 (0, 0)) → row ≠ some b → other ≠ some b) (hn : row' = row ∨ ∀ g, row' = some g → w.heap.size ≤ g) : OffI w' row' xs v := by
  obtain ⟨B, q, rfl, hr, hb⟩ := h
  refine ⟨B, q, rfl, ⟨hr.1, hr.2.1, hr.2.2.1, fun h0 => ?_⟩, fun b o he => ?_⟩
  · obtain ⟨b, o, e, hc⟩ := hr.2.2.2 h0
    obtain ⟨h1, cs, h2⟩ := hb b o e
    exact ⟨b, o, e, fun j u hu => hg.cell (hc j u hu) (Ne.symm (ho b cs h2 h1))⟩
  · obtain ⟨h1, cs, h2⟩ := hb b o he
    refine ⟨?_, cs, blk_grown hg h2 (ho b cs h2 h1)⟩
    rcases hn with h | h
    · rw [h]; exact h1
    · intro e; have := h b e; have := blk_lt h2; omega
theorem OffI.ext {w w' : World} {row : Option Nat} {xs : List Int} {v : Value} (h : OffI w row xs v) (hx : Ext w w') : OffI w' row xs v :=
  h.keep (grown_of_ext hx none) (fun _ _ _ _ => by simp) (.inl rfl)
theorem OffI.own {w : World} {base n c : Nat} {A : Option Addr} {xs : List Int} {row : Option Nat} (h : w.ownsRow base 3 1 (.slice A n c) n (ints xs)) (hne : row ≠ (Value.slice A n c).ownBlock ∨ A = none) : OffI w row xs (.slice A n c) := by
  have hl : xs.length = n := by have := own_len1 h; rw [ints_length] at this; exact this
  subst hl
  refine ⟨A, c, rfl, Row.own h, fun b o he => ?_⟩
  subst he
  rcases h.2 with ⟨hv, _⟩ | ⟨g, cap, cur, hv, _, hg, _⟩
  · cases hv
  · injection hv with h1
    injection h1 with h1
    injection h1 with h1 h2
    subst h1
    refine ⟨?_, cur, hg⟩
    rcases hne with h | h
    · exact h
    · cases h
theorem OffI.nil (w : World) (row : Option Nat) : OffI w row [] (.slice none 0 0) := ⟨none, 0, rfl, Row.nil w 1, fun b o h => by cases h⟩

/-- A row of records of the call's own; the integers of each stand in blocks of integers other than the given one. -/
def OwnRecs (cell : α → Value → List Value) (lst : α → List Int) (sz : Nat) (e : TypeId) (w : World) (base : Nat) (row : Option Nat) (u : Value) (D : List α) : Prop :=
  ∃ vs : List Value, vs.length = D.length ∧ w.ownsRow base e sz u D.length (recCells cell D vs) ∧ ∀ (i : Nat) (d : α), D[i]? = some d → ∃ x, vs[i]? = some x ∧ OffI w row (lst d) x
variable {e : TypeId}
theorem OwnRecs.recs {w : World} {base : Nat} {row : Option Nat} {u : Value} {D : List α} (h : OwnRecs cell lst sz e w base row u D) : ∃ C q, u = .slice C D.length q ∧ Recs cell lst sz w C D.length q D := by
  obtain ⟨vs, h3, h4, h5⟩ := h
  obtain ⟨C, q, rfl, hr⟩ := own_form h4
  refine ⟨C, q, rfl, vs, h3, hr, fun i d hd => ?_⟩
  obtain ⟨x, hx1, B, q', rfl, hx2, _⟩ := h5 i d hd
  exact ⟨B, q', hx1, hx2⟩
theorem OwnRecs.keep {w w' : World} {base : Nat} {row row' other : Option Nat} {u : Value} {D : List α} (h : OwnRecs cell lst sz e w base row u D) (hg : w.grownBy w' other) (hu : u.ownBlock = none ∨ u.ownBlock ≠ other) (ho : ∀ b cs, w.heap[b]? = some (.cells cs 3 (0, 0)) → row ≠ some b → other ≠ some b) (hn : row' = row ∨ ∀ g, row' = some g → w.heap.size ≤ g) : OwnRecs cell lst sz e w' base row' u D := by
  obtain ⟨vs, h3, h4, h5⟩ := h
  refine ⟨vs, h3, h4.kept hg hu, fun i d hd => ?_⟩
  obtain ⟨x, hx1, hx2⟩ := h5 i d hd
  exact ⟨x, hx1, hx2.keep hg ho hn⟩
theorem OwnRecs.ext {w w' : World} {base : Nat} {row : Option Nat} {u : Value} {D : List α} (h : OwnRecs cell lst sz e w base row u D) (hx : Ext w w') : OwnRecs cell lst sz e w' base row u D := by
  obtain ⟨vs, h3, h4, h5⟩ := h
  refine ⟨vs, h3, own_ext h4 hx, fun i d hd => ?_⟩
  obtain ⟨x, hx1, hx2⟩ := h5 i d hd
  exact ⟨x, hx1, hx2.ext hx⟩
theorem OwnRecs.nil (w : World) (base : Nat) (row : Option Nat) (u : Value) (h : w.ownsRow base e sz u 0 []) : OwnRecs cell lst sz e w base row u [] :=
  ⟨[], rfl, h, fun i d hd => by simp at hd⟩
/-- One record more at the end. -/
theorem OwnRecs.push {w w2 w3 : World} {base : Nat} {row : Option Nat} {u u' : Value} {D : List α} {d : α} {x : Value} (h : OwnRecs cell lst sz e w base row u D) (hne : e ≠ 3) (hx : Ext w w2) (hv : OffI w2 row (lst d) x) (hg : w2.grownBy w3 u.ownBlock)
    (ho : ∀ vs : List Value, vs.length = D.length → w2.ownsRow base e sz u D.length (recCells cell D vs) → w3.ownsRow base e sz u' (D.length + 1) (recCells cell D vs ++ cell d x)) : OwnRecs cell lst sz e w3 base row u' (D ++ [d]) := by
  have h' := h.ext hx
  obtain ⟨vs, h3, h4, h5⟩ := h'
  have hub : ∀ b cs, w2.heap[b]? = some (.cells cs 3 (0, 0)) → row ≠ some b → u.ownBlock ≠ some b := fun b cs hb _ => row_ne h4 hb hne
  refine ⟨vs ++ [x], by simp [h3], ?_, fun i d' hd => ?_⟩
  · have := ho vs h3 h4
    rw [recCells_snoc D vs h3, List.length_append]
    exact this
  · rcases Nat.lt_or_ge i D.length with hi | hi
    · rw [List.getElem?_append_left hi] at hd
      obtain ⟨y, hy1, hy2⟩ := h5 i d' hd
      exact ⟨y, by rw [List.getElem?_append_left (by omega)]; exact hy1, hy2.keep hg hub (.inl rfl)⟩
    · rw [List.getElem?_append_right hi] at hd
      have hi0 : i = D.length := by
        rcases Nat.eq_or_lt_of_le hi with e | e
        · exact e.symm
        · rw [List.getElem?_eq_none (by simp; omega)] at hd; cases hd
      subst hi0
      simp at hd
      subst hd
      exact ⟨x, by rw [List.getElem?_append_right (by omega)]; simp [h3], hv.keep hg hub (.inl rfl)⟩
end

/-- A script of edits. -/
def ecell (e : Edt) (v : Value) : List Value := [.int .i64 e.1, .int .i64 e.2.1, .int .i64 e.2.2.1, v]
abbrev Edts (w : World) (A : Option Addr) (n c : Nat) (E : List Edt) : Prop := Recs ecell (fun e => e.2.2.2) 4 w A n c E
abbrev OwnEdts (w : World) (base : Nat) (row : Option Nat) (u : Value) (E : List Edt) : Prop := OwnRecs ecell (fun e => e.2.2.2) 4 29 w base row u E
/-- A row of impl.Edits: whether it panicked, the list, whether it stayed. -/
abbrev ERow := Bool × List Int × Bool
def rcell (d : ERow) (v : Value) : List Value := [.bool d.1, v, .bool d.2.2]
abbrev ERows (w : World) (A : Option Addr) (n c : Nat) (D : List ERow) : Prop := Recs rcell (fun d => d.2.1) 3 w A n c D
abbrev OwnERows (w : World) (base : Nat) (row : Option Nat) (u : Value) (D : List ERow) : Prop := OwnRecs rcell (fun d => d.2.1) 3 41 w base row u D
theorem ecell_len (e : Edt) (v : Value) : (ecell e v).length = 4 := rfl
theorem rcell_len (d : ERow) (v : Value) : (rcell d v).length = 3 := rfl
theorem edts_len {w : World} {A : Option Addr} {n c : Nat} {E : List Edt} (h : Edts w A n c E) : E.length = n := Recs.len ecell_len (by omega) h
theorem erows_len {w : World} {A : Option Addr} {n c : Nat} {D : List ERow} (h : ERows w A n c D) : D.length = n := Recs.len rcell_len (by omega) h
theorem edts_at {w : World} {A : Option Addr} {n c : Nat} {E : List Edt} (h : Edts w A n c E) {k : Nat} (hk : k < n) :
    ∃ (b o : Nat) (op i j : Int) (vs : List Int) (B : Option Addr) (q : Nat), A = some ⟨b, o, none⟩ ∧ Hid (E[k]? = some (op, i, j, vs)) ∧ w.cell? ⟨b, o + k * 4, none⟩ = some (.int .i64 op) ∧ w.cell? ⟨b, o + k * 4 + 1, none⟩ = some (.int .i64 i) ∧ w.cell? ⟨b, o + k * 4 + 2, none⟩ = some (.int .i64 j) ∧
      w.cell? ⟨b, o + k * 4 + 3, none⟩ = some (.slice B vs.length q) ∧ Hid (Row w 1 B vs.length q (ints vs)) := by
  obtain ⟨b, o, ⟨op, i, j, vs⟩, B, q, hA, hd, hc, hr⟩ := Recs.at_ ecell_len (by omega) h hk
  refine ⟨b, o, op, i, j, vs, B, q, hA, hd, ?_, ?_, ?_, ?_, hr⟩
  · exact hc 0 _ rfl
  · rw [Nat.add_assoc]; exact hc 1 _ rfl
  · rw [Nat.add_assoc]; exact hc 2 _ rfl
  · rw [Nat.add_assoc]; exact hc 3 _ rfl
theorem erows_at {w : World} {A : Option Addr} {n c : Nat} {D : List ERow} (h : ERows w A n c D) {k : Nat} (hk : k < n) :
    ∃ (b o : Nat) (p : Bool) (l : List Int) (s : Bool) (B : Option Addr) (q : Nat), A = some ⟨b, o, none⟩ ∧ Hid (D[k]? = some (p, l, s)) ∧ w.cell? ⟨b, o + k * 3, none⟩ = some (.bool p) ∧ w.cell? ⟨b, o + k * 3 + 1, none⟩ = some (.slice B l.length q) ∧ w.cell? ⟨b, o + k * 3 + 2, none⟩ = some (.bool s) ∧ Hid (Row w 1 B l.length q (ints l)) := by
  obtain ⟨b, o, ⟨p, l, s⟩, B, q, hA, hd, hc, hr⟩ := Recs.at_ rcell_len (by omega) h hk
  refine ⟨b, o, p, l, s, B, q, hA, hd, ?_, ?_, ?_, hr⟩
  · exact hc 0 _ rfl
  · rw [Nat.add_assoc]; exact hc 1 _ rfl
  · rw [Nat.add_assoc]; exact hc 2 _ rfl
end Go.Proofs.Ytaimljagflnfpaa
