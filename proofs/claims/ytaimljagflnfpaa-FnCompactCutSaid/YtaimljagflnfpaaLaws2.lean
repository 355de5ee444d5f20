/- More laws at single operations: copy, clear and append inside a row of the call's own, append of zero values into a new row. No statement of the seat is proved here. -/
import Derived.Test.YtaimljagflnfpaaWords2
import Derived.Lib.AppendZerosOnto
import Derived.Lib.Overlaps
namespace Go.Proofs.Ytaimljagflnfpaa
open Go.RowKit

/-- Block g is just the cells cs, none of them frozen. -/
def Blk (w : World) (g : Nat) (e : TypeId) (cs : List Value) : Prop := w.heap[g]? = some (.cells cs.toArray e (0, 0))

section
variable {w w' : World} {g : Nat} {e : TypeId} {cs : List Value}
theorem Blk.lt (h : Blk w g e cs) : g < w.heap.size := blk_lt h
theorem Blk.ext (h : Blk w g e cs) (k : Ext w w') : Blk w' g e cs := blk_ext k h
theorem Blk.grown {row : Option Nat} (h : Blk w g e cs) (k : w.grownBy w' row) (hne : row ≠ some g) : Blk w' g e cs := blk_grown k h hne
theorem Blk.set (h : Blk w g e cs) (xs : List Value) : Blk (w.setRow g xs.toArray) g e xs := setRow_heap w g cs.toArray xs.toArray e (0, 0) h
theorem Blk.cell (h : Blk w g e cs) (i : Nat) : w.cell? ⟨g, i, none⟩ = cs[i]? := by unfold Blk at h; simp [World.cell?, h]
theorem Blk.frozen (h : Blk w g e cs) (i : Nat) : w.frozen? ⟨g, i, none⟩ = false := by unfold Blk at h; simp [World.frozen?, h]
theorem grown_setRow (w : World) (g : Nat) (xs : Array Value) : w.grownBy (w.setRow g xs) (some g) :=
  ⟨rfl, rfl, rfl, by simp, fun k _ hk => setRow_other w g k xs (fun e => hk (by rw [e]))⟩
theorem grown_trans {a b c : World} {row : Option Nat} (h : a.grownBy b row) (k : b.grownBy c row) : a.grownBy c row :=
  ⟨k.os.trans h.os, k.tape.trans h.tape, k.output.trans h.output, Nat.le_trans h.size k.size, fun i hi hn => (k.block i (Nat.lt_of_lt_of_le hi h.size) hn).trans (h.block i hi hn)⟩
theorem grown_of_ext {a b : World} (h : Ext a b) (row : Option Nat) : a.grownBy b row := by
  have h' : Below a.heap.size a b := h
  exact ⟨h'.os, h'.tape, h'.output, h'.size, fun i hi _ => h'.block i hi⟩
theorem ext_of_grown {a b : World} (h : a.grownBy b none) : Ext a b := ⟨h.os, h.tape, h.output, h.size, fun i hi => h.block i hi (by simp)⟩
theorem grown_drew {a b : World} {row : Option Nat} (h : a.grownBy b row) : a.grownBy b.drew row := ⟨h.os, h.tape, h.output, h.size, h.block⟩

/-- The part of a block that a slice reads. -/
theorem Blk.row (h : Blk w g e cs) {sz n c o : Nat} (hn : n ≤ c) (hc : c ≤ maxLen) (hl : o + n * sz ≤ cs.length) : Row w sz (some ⟨g, o, none⟩) n c ((cs.drop o).take (n * sz)) := by
  refine ⟨by rw [List.length_take, List.length_drop]; omega, hn, hc, fun _ => ⟨g, o, rfl, fun j u hu => ?_⟩⟩
  rw [List.getElem?_take] at hu
  split at hu
  · rw [h.cell, ← List.getElem?_drop]; exact hu
  · cases hu
/-- What is owned, taken apart: nil, or a block. -/
theorem own_cases {base sz n : Nat} {v : Value} (h : w.ownsRow base e sz v n cs) :
    (v = .slice none 0 0 ∧ n = 0 ∧ cs = []) ∨ ∃ g c cur, v = .slice (some ⟨g, 0, none⟩) n c ∧ base ≤ g ∧ Blk w g e cur ∧ n ≤ c ∧ c ≤ maxLen ∧ cur.length = c * sz ∧ cur.take (n * sz) = cs := by
  rcases h.2 with ⟨rfl, rfl⟩ | ⟨g, cap, cur, rfl, hb, hg, h1, h2, h3, h4⟩
  · exact .inl ⟨rfl, rfl, List.eq_nil_of_length_eq_zero (by simpa using h.1)⟩
  · exact .inr ⟨g, cap, cur.toList, rfl, hb, by unfold Blk; simpa using hg, h1, h2, by simpa using h3, h4⟩
theorem own_mk {base sz n c : Nat} {cur : List Value} (hb : base ≤ g) (h : Blk w g e cur) (hn : n ≤ c) (hc : c ≤ maxLen) (hl : cur.length = c * sz) : w.ownsRow base e sz (.slice (some ⟨g, 0, none⟩) n c) n (cur.take (n * sz)) := by
  have hm : n * sz ≤ c * sz := Nat.mul_le_mul_right _ hn
  exact ⟨by rw [List.length_take]; omega, .inr ⟨g, c, cur.toArray, rfl, hb, h, hn, hc, by simpa using hl, by simp⟩⟩
end

section
variable {P : Program} {t e : TypeId} {sz bytes : Nat}

theorem El.size (E : El P t e sz bytes) (w : World) : (Go.sizeOf e).run P w = .ok sz w := by
  obtain ⟨_, ⟨i, z, hi, _, hs, _⟩, _⟩ := E
  simp [Go.sizeOf, typeInfo, hi, hs]

theorem run_first (w : World) (A : Option Addr) (sl sc n : Nat) (cs : List Value) (hr : Row w sz A sl sc cs) (hn : n ≤ sl) : (Builtin.firstCells sz n (.slice A sl sc)).run P w = .ok (cs.take (n * sz)).toArray w := by
  rcases Nat.eq_zero_or_pos n with h0 | h0
  · subst h0
    cases A <;> simp [Builtin.firstCells, loadCells, loadCellsFrom]
  · obtain ⟨b, o, rfl, hc⟩ := hr.2.2.2 (by omega)
    have hm : n * sz ≤ sl * sz := Nat.mul_le_mul_right _ hn
    have hl := run_loadCells_list (P := P) w ⟨b, o, none⟩ (cs.take (n * sz)) (fun j v hv => by
      rw [add_zero_off]
      rw [List.getElem?_take] at hv
      split at hv
      · exact hc j v hv
      · cases hv)
    have e1 : (cs.take (n * sz)).length = n * sz := by rw [List.length_take, hr.1]; omega
    rw [e1] at hl
    simp only [Builtin.firstCells]
    exact hl

theorem run_cp (E : El P t e sz bytes) (w : World) (ty t' : TypeId) (g o : Nat) (cur : List Value) (hg : Blk w g e cur) (D : Option Addr) (dl dc : Nat) (A : Option Addr) (sl sc : Nat) (cs : List Value) (hr : Row w sz A sl sc cs)
    (h1 : ∀ u ∈ cs.take (min sl dl * sz), u.oneCell' = true) (hD : 0 < min sl dl → D = some ⟨g, o, none⟩) (hfit : o + min sl dl * sz ≤ cur.length) :
    (Builtin.copy_ #[t, t'] ty #[.slice D dl dc, .slice A sl sc]).run P w = .ok (goInt (min sl dl : Nat)) (w.setRow g (splice cur o (cs.take (min sl dl * sz))).toArray) := by
  have hf := run_first (P := P) w A sl sc (min sl dl) cs hr (by omega)
  have hlen : (cs.take (min sl dl * sz)).length = min sl dl * sz := by
    have hm : min sl dl * sz ≤ sl * sz := Nat.mul_le_mul_right _ (by omega)
    rw [List.length_take, hr.1]; omega
  rcases Nat.eq_zero_or_pos (min sl dl) with h0 | h0
  · have hs : w.setRow g (splice cur o (cs.take (min sl dl * sz))).toArray = w := by
      rw [h0]
      simp only [Nat.zero_mul, List.take_zero, splice, List.nil_append, List.length_nil, Nat.add_zero, List.take_append_drop]
      exact setRow_self w g cur.toArray e (0, 0) hg
    rw [hs]
    have e0 : Nat.min sl dl = 0 := h0
    rw [h0] at hf ⊢
    simp only [Nat.zero_mul, List.take_zero] at hf
    cases D <;> simp [Builtin.copy_, run_underlying E.ht, Builtin.lenOf, E.size, e0, hf, storeCells]
  · obtain rfl := hD h0
    have hst := run_storeCells_at P g o e (cs.take (min sl dl * sz)) 0 cur.toArray w hg (by simpa [hlen] using hfit) h1
    have e0 : Nat.min sl dl = min sl dl := rfl
    simp only [Nat.add_zero] at hst
    simp [Builtin.copy_, run_underlying E.ht, Builtin.lenOf, E.size, e0, hf, hst, splice]

theorem run_app_room (E : El P t e sz bytes) (w : World) (ty : TypeId) (g i c : Nat) (cur : List Value) (hg : Blk w g e cur) (A : Option Addr) (m mc : Nat) (cs : List Value) (hr : Row w sz A m mc cs)
    (h1 : ∀ u ∈ cs, u.oneCell' = true) (hroom : i + m ≤ c) (hl : cur.length = c * sz) :
    (Builtin.append_ #[t, t] ty #[.slice (some ⟨g, 0, none⟩) i c, .slice A m mc]).run P w = .ok (.slice (some ⟨g, 0, none⟩) (i + m) c) (w.setRow g (splice cur (i * sz) cs).toArray) := by
  have hf := run_first (P := P) w A m mc m cs hr (Nat.le_refl _)
  have e1 : cs.take (m * sz) = cs := List.take_of_length_le (by rw [hr.1]; exact Nat.le_refl _)
  rw [e1] at hf
  have hm : (i + m) * sz ≤ c * sz := Nat.mul_le_mul_right _ hroom
  rw [Nat.add_mul] at hm
  have hst := run_storeCells_at P g (i * sz) e cs 0 cur.toArray w hg (by simp [hr.1]; omega) h1
  simp only [Nat.add_zero] at hst
  obtain ⟨ht, ⟨inf, z, hi, hz, hs, hby, hzs⟩, hpos⟩ := E
  have hadd : (⟨g, 0, none⟩ : Addr).add (i * sz) = ⟨g, i * sz, none⟩ := by rw [add_zero_off]; simp
  simp [Builtin.append_, run_underlying ht, sizeOf, typeInfo, hi, hs, Builtin.lenOf, hroom, hf, hadd, hst, splice]

/-- zero values, n elements of them -/
def zeros (z : Value) (n : Nat) : List Value := (Builtin.zeroCells z.cells n).toList
theorem zeros_length (z : Value) (n : Nat) : (zeros z n).length = n * z.cells.size := by simp [zeros, Builtin.zeroCells]

theorem run_clr (E : El P t e sz bytes) {z : Value} (hz : (P.info? e).bind (·.zero) = some z) (hz1 : ∀ n, ∀ u ∈ zeros z n, u.oneCell' = true) (w : World) (ty : TypeId) (g o : Nat) (cur : List Value) (hg : Blk w g e cur) (D : Option Addr) (k dc : Nat)
    (hD : 0 < k → D = some ⟨g, o, none⟩) (hfit : o + k * sz ≤ cur.length) :
    (Builtin.clear_ #[t] ty #[.slice D k dc]).run P w = .ok (.tuple #[]) (w.setRow g (splice cur o (zeros z k)).toArray) := by
  obtain ⟨ht, ⟨inf, z', hi, hz', hs, hby, hzs⟩, hpos⟩ := E
  have hzz : z' = z := by rw [hi] at hz; simp [hz'] at hz; exact hz
  subst hzz
  rcases Nat.eq_zero_or_pos k with h0 | h0
  · subst h0
    have e1 : zeros z' 0 = [] := List.eq_nil_of_length_eq_zero (by rw [zeros_length]; simp)
    have hs2 : w.setRow g (splice cur o (zeros z' 0)).toArray = w := by
      rw [e1]
      simp only [splice, List.nil_append, List.length_nil, Nat.add_zero, List.take_append_drop]
      exact setRow_self w g cur.toArray e (0, 0) hg
    rw [hs2]
    cases D <;> simp [Builtin.clear_, run_underlying ht]
  · obtain rfl := hD h0
    have hst := run_storeCells_at P g o e (zeros z' k) 0 cur.toArray w hg (by rw [zeros_length, hzs]; simpa using hfit) (hz1 k)
    simp only [Nat.add_zero] at hst
    obtain ⟨k, rfl⟩ : ∃ j, k = j + 1 := ⟨k - 1, by omega⟩
    have hst' : (storeCells ⟨g, o, none⟩ (Builtin.zeroCells z'.cells (k + 1)).toList).run P w = _ := hst
    simp [Builtin.clear_, run_underlying ht, zeroValue, typeInfo, hi, hz', hst', splice]
end

/-- A row made longer: new values at a, and behind them what stood there. -/
theorem splice_new {α : Type} {L ys tl : List α} {a b k : Nat} (ha : a ≤ L.length) (hb : b = a + ys.length) (hk : k = b + tl.length) (hl : k ≤ L.length) : (splice (splice L a ys) b tl).take k = L.take a ++ ys ++ tl := by
  subst hb hk
  have h1 : (L.take a).length = a := by rw [List.length_take]; omega
  have h2 : splice L a ys = (L.take a ++ ys) ++ L.drop (a + ys.length) := by simp [splice]
  have h3 : (L.take a ++ ys).length = a + ys.length := by rw [List.length_append, h1]
  have h4 : (splice L a ys).take (a + ys.length) = L.take a ++ ys := by rw [h2, ← h3, List.take_left']; rfl
  have h5 : splice (splice L a ys) (a + ys.length) tl = (L.take a ++ ys ++ tl) ++ (splice L a ys).drop (a + ys.length + tl.length) := by
    rw [splice, h4]; simp
  rw [h5]
  refine List.take_left' ?_
  rw [List.length_append, h3]
theorem splice_up {α : Type} {L ys tl : List α} {a b k : Nat} (hb : b = a + ys.length) (hk : k = b + tl.length) (hl : k ≤ L.length) : (splice (splice L b tl) a ys).take k = L.take a ++ ys ++ tl := by
  subst hb hk
  have h1 : (L.take (a + ys.length)).length = a + ys.length := by rw [List.length_take]; omega
  have h2 : splice L (a + ys.length) tl = L.take (a + ys.length) ++ (tl ++ L.drop (a + ys.length + tl.length)) := rfl
  have h3 : (splice L (a + ys.length) tl).take a = L.take a := by
    rw [h2, List.take_append_of_le_length (by omega), List.take_take]
    congr 1
    omega
  have h4 : (splice L (a + ys.length) tl).drop (a + ys.length) = tl ++ L.drop (a + ys.length + tl.length) := by
    rw [h2]
    exact List.drop_left' h1
  have h5 : splice (splice L (a + ys.length) tl) a ys = (L.take a ++ ys ++ tl) ++ L.drop (a + ys.length + tl.length) := by
    rw [splice, h3, h4]; simp
  rw [h5]
  refine List.take_left' ?_
  rw [List.length_append, List.length_append, List.length_take]
  omega
/-- What is cut out of a row in place. -/
theorem splice_cut {α : Type} {L tl Z : List α} {a k : Nat} (hk : k = a + tl.length) (hl : k ≤ L.length) : (splice (splice L a tl) k Z).take k = L.take a ++ tl := by
  subst hk
  have h1 : (L.take a ++ tl).length = a + tl.length := by rw [List.length_append, List.length_take]; omega
  have h2 : splice L a tl = (L.take a ++ tl) ++ L.drop (a + tl.length) := by simp [splice]
  have h3 : (splice L a tl).take (a + tl.length) = L.take a ++ tl := by rw [h2]; exact List.take_left' h1
  rw [splice, h3]
  exact List.take_left' h1
theorem own_ext {w w' : World} {base : Nat} {e : TypeId} {sz n : Nat} {v : Value} {xs : List Value} (h : w.ownsRow base e sz v n xs) (k : Ext w w') : w'.ownsRow base e sz v n xs := by
  by_cases h0 : v.ownBlock = none
  · exact h.kept (grown_of_ext k none) (.inl h0)
  · exact h.kept (grown_of_ext k none) (.inr h0)

theorem own_lit0' (w : World) (e : TypeId) (sz B : Nat) (hB : w.heap.size = B) : (w.alloc (.cells #[] e)).ownsRow B e sz (.slice (some ⟨B, 0, none⟩) 0 0) 0 [] := by
  subst hB
  exact own_lit0 w e sz
theorem own_uniq {w : World} {base base' : Nat} {e : TypeId} {sz n : Nat} {v : Value} {xs ys : List Value} (h : w.ownsRow base e sz v n xs) (k : w.ownsRow base' e sz v n ys) : xs = ys := by
  rcases h.2 with ⟨rfl, rfl⟩ | ⟨g, cap, cur, rfl, _, hg, _, _, _, hx⟩
  · have h1 := h.1
    have h2 := k.1
    rw [Nat.zero_mul] at h1 h2
    rw [List.length_eq_zero_iff.1 h1, List.length_eq_zero_iff.1 h2]
  · rcases k.2 with ⟨e1, e2⟩ | ⟨g', cap', cur', e1, _, hg', _, _, _, hy⟩
    · simp at e1
    · simp at e1
      obtain ⟨rfl, rfl⟩ := e1
      rw [hg] at hg'
      simp at hg'
      subst hg'
      exact hx.symm.trans hy
theorem own_over {w2 w3 w4 : World} {base g : Nat} {e : TypeId} {sz n : Nat} {u : Value} {xs : List Value} (h : w2.ownsRow base e sz u n xs) (hx : Ext w2 w3) (hg : w3.grownBy w4 (some g)) (hgz : w2.heap.size ≤ g) : w4.ownsRow base e sz u n xs := by
  have h3 := own_ext h hx
  refine h3.kept hg (.inr fun e => ?_)
  have := (h.lt g e).2
  omega
theorem ext_own {a w w' : World} {v : Value} {g : Nat} (h : Ext a w) (hg : w.grownBy w' v.ownBlock) (hv : v.ownBlock = some g) (hz : a.heap.size ≤ g) : Ext a w' :=
  h.grown hg fun k hk => by rw [hv] at hk; injection hk with hk; omega
theorem own_own_ne {w : World} {b1 b2 : Nat} {e1 e2 : TypeId} {s1 s2 n1 n2 : Nat} {v u : Value} {xs ys : List Value} (h : w.ownsRow b1 e1 s1 v n1 xs) (k : w.ownsRow b2 e2 s2 u n2 ys) (hne : e1 ≠ e2) : v.ownBlock = none ∨ v.ownBlock ≠ u.ownBlock := by
  rcases k.2 with ⟨rfl, _⟩ | ⟨g, cap, cur, rfl, _, hg, _⟩
  · by_cases h0 : v.ownBlock = none
    · exact .inl h0
    · exact .inr h0
  · exact .inr (row_ne h hg hne)
theorem own_up {w : World} {base b' : Nat} {e : TypeId} {sz n : Nat} {v : Value} {xs : List Value} (h : w.ownsRow base e sz v n xs) (hb : b' ≤ base) : w.ownsRow b' e sz v n xs := by
  refine ⟨h.1, ?_⟩
  rcases h.2 with h0 | ⟨g, cap, cur, h1, h3, h2⟩
  · exact .inl h0
  · exact .inr ⟨g, cap, cur, h1, Nat.le_trans hb h3, h2⟩
end Go.Proofs.Ytaimljagflnfpaa
