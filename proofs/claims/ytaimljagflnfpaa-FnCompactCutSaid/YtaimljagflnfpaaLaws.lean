/- Laws at single operations that the contracts of this seat share: append onto a row of the call's own. No statement of the seat is proved here. -/
import Derived.Test.YtaimljagflnfpaaWords
import Derived.Maps.AppendAt
import Derived.Deep.RegionLaw
import Derived.Laws.CopyOwn
namespace Go.Proofs.Ytaimljagflnfpaa
open Go.RowKit

/-- A goal at which the walk is to stand still. -/
def Stand (p : Prop) : Prop := p
theorem Stand.out {p : Prop} (h : Stand p) : p := h
theorem Stand.mk {p : Prop} (h : p) : Stand p := h

/-- What the program's table says of a slice type t with elements of type e. -/
structure El (P : Program) (t e : TypeId) (sz bytes : Nat) : Prop where
  ht : P.underlying t = some (.slice e)
  info : ∃ i z, P.info? e = some i ∧ i.zero = some z ∧ i.size = sz ∧ i.bytes = bytes ∧ z.cells.size = sz
  pos : 0 < sz

theorem El.mk' {P : Program} {t e : TypeId} {z : Value} {sz bytes : Nat} (ht : P.underlying t = some (.slice e))
    (h : (P.info? e).map (fun i => (i.zero, i.size, i.bytes)) = some (some z, sz, bytes)) (hz : z.cells.size = sz) (hp : 0 < sz) : El P t e sz bytes := by
  obtain ⟨i, hi, h1, h2, h3⟩ := info_parts h
  exact ⟨ht, ⟨i, z, hi, h1, h2, h3, hz⟩, hp⟩

theorem add_zero_off (b o j : Nat) : (⟨b, o, none⟩ : Addr).add j = ⟨b, o + j, none⟩ := by unfold Addr.add; split <;> simp_all

section
variable {P : Program} {t e : TypeId} {sz bytes : Nat}

theorem run_app (E : El P t e sz bytes) (w : World) (ty : TypeId) (base : Nat) (v : Value) (n : Nat) (xs : List Value) (hown : w.ownsRow base e sz v n xs)
    (A : Option Addr) (m c : Nat) (news : List Value) (hr : Row w sz A m c news) (h1 : ∀ u ∈ news, u.oneCell' = true)
    (hb : (n + m) * bytes ≤ 140737488355328) (h63 : n + m ≤ maxLen) (hbase : base ≤ w.heap.size) :
    ∃ v' w', (Builtin.append_ #[t, t] ty #[v, .slice A m c]).run P w = .ok v' w' ∧ w'.ownsRow base e sz v' (n + m) (xs ++ news) ∧ w.grownBy w' v.ownBlock ∧
      (v'.ownBlock = v.ownBlock ∨ v'.ownBlock = some w.heap.size) := by
  obtain ⟨ht, ⟨i, z, hi, hz, hs, hby, hzs⟩, hpos⟩ := E
  rcases Nat.eq_zero_or_pos m with h0 | h0
  · subst h0
    have hn : news = [] := List.eq_nil_of_length_eq_zero (by simpa using hr.1)
    subst hn
    cases A with
    | none =>
      refine ⟨v, w, ?_, by simpa using hown, World.grownBy.refl w _, .inl rfl⟩
      rcases hown.2 with ⟨rfl, rfl⟩ | ⟨g, cap, cur, rfl, _, _, hnc, _⟩
      · simp [Builtin.append_, run_underlying ht, sizeOf, typeInfo, hi, Builtin.lenOf, Builtin.firstCells]
      · simp [Builtin.append_, run_underlying ht, sizeOf, typeInfo, hi, Builtin.lenOf, Builtin.firstCells, hnc, storeCells]
    | some ad =>
      obtain ⟨v', w', hrun, h2, h3, _, h5⟩ := run_append_own_at (P := P) w base t ty e i z sz bytes ht hi hz hs hby hzs hpos v n xs hown ad 0 c [] (by simp) (fun j u hu => by simp at hu) (by simp) h63 hb hbase
      exact ⟨v', w', hrun, h2, h3, h5⟩
  · obtain ⟨b, o, rfl, hc⟩ := hr.2.2.2 h0
    obtain ⟨v', w', hrun, h2, h3, _, h5⟩ := run_append_own_at (P := P) w base t ty e i z sz bytes ht hi hz hs hby hzs hpos v n xs hown ⟨b, o, none⟩ m c news hr.1 (fun j u hu => by rw [add_zero_off]; exact hc j u hu) h1 h63 hb hbase
    exact ⟨v', w', hrun, h2, h3, h5⟩

theorem wp_app (E : El P t e sz bytes) {w : World} {o : Oper} {a : Act} {K : Act → World → Prop} {Q : Exit → Act → World → Prop} (s x : Operand)
    (ho : o.op = .call { callee := .builtin .append, args := #[s, x], argTypes := #[t, t] })
    (base : Nat) (v : Value) (n : Nat) (xs : List Value) (hs : a.eval s = v) (hown : w.ownsRow base e sz v n xs)
    (A : Option Addr) (m c : Nat) (news : List Value) (hx : a.eval x = .slice A m c) (hr : Row w sz A m c news) (h1 : ∀ u ∈ news, u.oneCell' = true)
    (hb : (n + m) * bytes ≤ 140737488355328) (h63 : n + m ≤ maxLen) (hbase : base ≤ w.heap.size)
    (h : ∀ v' w', Hid (w'.ownsRow base e sz v' (n + m) (xs ++ news)) → Hid (w.grownBy w' v.ownBlock) → Hid (v'.ownBlock = v.ownBlock ∨ v'.ownBlock = some w.heap.size) → K (a.put o.dst v') w') : o.wp P a w K Q := by
  obtain ⟨v', w', hrun, h2, h3, h4⟩ := run_app E w o.type base v n xs hown A m c news hr h1 hb h63 hbase
  unfold Oper.wp execOp
  simp only [ho, resolve, invoke, builtin, Sem.run_bind, Sem.run_pure, Result.andThen_ok, List.map_toArray, List.map_cons, List.map_nil, hs, hx, hrun]
  exact h v' w' h2 h3 h4

theorem wpList_app (E : El P t e sz bytes) {w : World} {ops : Array Oper} {rest : List Oper} {o : Oper} {a : Act} {Q : Exit → Act → World → Prop} (hgd : o.guard = none) (s x : Operand)
    (ho : o.op = .call { callee := .builtin .append, args := #[s, x], argTypes := #[t, t] })
    (base : Nat) (v : Value) (n : Nat) (xs : List Value) (hs : a.eval s = v) (hown : w.ownsRow base e sz v n xs)
    (A : Option Addr) (m c : Nat) (news : List Value) (hx : a.eval x = .slice A m c) (hr : Row w sz A m c news) (h1 : ∀ u ∈ news, u.oneCell' = true)
    (hb : (n + m) * bytes ≤ 140737488355328) (h63 : n + m ≤ maxLen) (hbase : base ≤ w.heap.size)
    (h : ∀ v' w', Hid (w'.ownsRow base e sz v' (n + m) (xs ++ news)) → Hid (w.grownBy w' v.ownBlock) → Hid (v'.ownBlock = v.ownBlock ∨ v'.ownBlock = some w.heap.size) → wpList P ops Q rest (a.put o.dst v') w') : wpList P ops Q (o :: rest) a w :=
  wpList_plain hgd fun _ hK => wp_app E s x ho base v n xs hs hown A m c news hx hr h1 hb h63 hbase fun v' w' h2 h3 h4 => hK _ _ (h v' w' h2 h3 h4)

theorem step_app (E : El P t e sz bytes) {w : World} {ops : Array Oper} {o : Oper} {a : Act} {K : Act → World → Prop} {Q : Exit → Act → World → Prop} {Els : Prop} (hgd : o.guard = none) (s x : Operand)
    (ho : o.op = .call { callee := .builtin .append, args := #[s, x], argTypes := #[t, t] })
    (base : Nat) (v : Value) (n : Nat) (xs : List Value) (hs : a.eval s = v) (hown : w.ownsRow base e sz v n xs)
    (A : Option Addr) (m c : Nat) (news : List Value) (hx : a.eval x = .slice A m c) (hr : Row w sz A m c news) (h1 : ∀ u ∈ news, u.oneCell' = true)
    (hb : (n + m) * bytes ≤ 140737488355328) (h63 : n + m ≤ maxLen) (hbase : base ≤ w.heap.size)
    (h : ∀ v' w', Hid (w'.ownsRow base e sz v' (n + m) (xs ++ news)) → Hid (w.grownBy w' v.ownBlock) → Hid (v'.ownBlock = v.ownBlock ∨ v'.ownBlock = some w.heap.size) → K (a.put o.dst v') w') :
    if Region.wanted o (yielded ops a.tmps) = true then Oper.wp P o a w K Q else Els := by
  have hw : Region.wanted o (yielded ops a.tmps) = true := by simp [Region.wanted, hgd]
  rw [if_pos hw]
  exact wp_app E s x ho base v n xs hs hown A m c news hx hr h1 hb h63 hbase h
end

section
variable {P : Program} {t e : TypeId} {sz bytes : Nat}
/-- The same, the new value written out as a slice. -/
theorem wpList_apps (E : El P t e sz bytes) {w : World} {ops : Array Oper} {rest : List Oper} {o : Oper} {a : Act} {Q : Exit → Act → World → Prop} (hgd : o.guard = none) (s x : Operand)
    (ho : o.op = .call { callee := .builtin .append, args := #[s, x], argTypes := #[t, t] })
    (base : Nat) (v : Value) (n : Nat) (xs : List Value) (hs : a.eval s = v) (hown : w.ownsRow base e sz v n xs)
    (A : Option Addr) (m c : Nat) (news : List Value) (hx : a.eval x = .slice A m c) (hr : Row w sz A m c news) (h1 : ∀ u ∈ news, u.oneCell' = true)
    (hb : (n + m) * bytes ≤ 140737488355328) (h63 : n + m ≤ maxLen) (hbase : base ≤ w.heap.size)
    (h : ∀ A' c' w', Hid (w'.ownsRow base e sz (.slice A' (n + m) c') (n + m) (xs ++ news)) → Hid (w.grownBy w' v.ownBlock) → Hid ((Value.slice A' (n + m) c').ownBlock = v.ownBlock ∨ (Value.slice A' (n + m) c').ownBlock = some w.heap.size) → wpList P ops Q rest (a.put o.dst (.slice A' (n + m) c')) w') : wpList P ops Q (o :: rest) a w :=
  wpList_app E hgd s x ho base v n xs hs hown A m c news hx hr h1 hb h63 hbase fun v' w' h2 h3 h4 => by
    obtain ⟨A', c', rfl, _⟩ := own_form h2.out
    exact h A' c' w' h2 h3 h4
theorem step_apps (E : El P t e sz bytes) {w : World} {ops : Array Oper} {o : Oper} {a : Act} {K : Act → World → Prop} {Q : Exit → Act → World → Prop} {Els : Prop} (hgd : o.guard = none) (s x : Operand)
    (ho : o.op = .call { callee := .builtin .append, args := #[s, x], argTypes := #[t, t] })
    (base : Nat) (v : Value) (n : Nat) (xs : List Value) (hs : a.eval s = v) (hown : w.ownsRow base e sz v n xs)
    (A : Option Addr) (m c : Nat) (news : List Value) (hx : a.eval x = .slice A m c) (hr : Row w sz A m c news) (h1 : ∀ u ∈ news, u.oneCell' = true)
    (hb : (n + m) * bytes ≤ 140737488355328) (h63 : n + m ≤ maxLen) (hbase : base ≤ w.heap.size)
    (h : ∀ A' c' w', Hid (w'.ownsRow base e sz (.slice A' (n + m) c') (n + m) (xs ++ news)) → Hid (w.grownBy w' v.ownBlock) → Hid ((Value.slice A' (n + m) c').ownBlock = v.ownBlock ∨ (Value.slice A' (n + m) c').ownBlock = some w.heap.size) → K (a.put o.dst (.slice A' (n + m) c')) w') :
    if Region.wanted o (yielded ops a.tmps) = true then Oper.wp P o a w K Q else Els :=
  step_app E hgd s x ho base v n xs hs hown A m c news hx hr h1 hb h63 hbase fun v' w' h2 h3 h4 => by
    obtain ⟨A', c', rfl, _⟩ := own_form h2.out
    exact h A' c' w' h2 h3 h4
end

/-- A row that a literal has just laid. -/
theorem Row.fresh (w : World) (e : TypeId) (sz : Nat) (cs : Array Value) (n : Nat) (h : cs.size = n * sz) (hm : n ≤ maxLen) : Row (w.alloc (.cells cs e)) sz (some ⟨w.heap.size, 0, none⟩) n n cs.toList := by
  refine ⟨by simpa using h, Nat.le_refl _, hm, fun _ => ⟨w.heap.size, 0, rfl, fun j u hu => ?_⟩⟩
  have : (w.alloc (.cells cs e)).heap[w.heap.size]? = some (.cells cs e) := heap_alloc_new w _
  simp only [World.cell?, this, Nat.zero_add]
  simpa using hu

theorem Row.fresh' (w : World) (e : TypeId) (sz : Nat) (cs : Array Value) (n B : Nat) (hB : w.heap.size = B) (h : cs.size = n * sz) (hm : n ≤ maxLen) : Row (w.alloc (.cells cs e)) sz (some ⟨B, 0, none⟩) n n cs.toList := by
  subst hB
  exact Row.fresh w e sz cs n h hm
theorem Row.drew {w : World} {sz n c : Nat} {A : Option Addr} {cs : List Value} (h : Row w sz A n c cs) : Row w.drew sz A n c cs := h
theorem Row.alloc {w : World} {sz n c : Nat} {A : Option Addr} {cs : List Value} (h : Row w sz A n c cs) (o : Obj) : Row (w.alloc o) sz A n c cs := h.ext ((Ext.refl w).alloc o)
/-- What is read in another row than the one that has grown. -/
theorem Row.grownBy {w w' : World} {sz n c B o : Nat} {cs : List Value} {row : Option Nat} (h : Row w sz (some ⟨B, o, none⟩) n c cs) (hg : w.grownBy w' row) (hne : some B ≠ row) : Row w' sz (some ⟨B, o, none⟩) n c cs := by
  refine ⟨h.1, h.2.1, h.2.2.1, fun hn => ?_⟩
  obtain ⟨b, q, e, hc⟩ := h.2.2.2 hn
  injection e with e
  injection e with e1 e2
  subst e1 e2
  exact ⟨B, o, rfl, fun j u hu => hg.cell (hc j u hu) hne⟩

theorem own_lit0 (w : World) (e : TypeId) (sz : Nat) : (w.alloc (.cells #[] e)).ownsRow w.heap.size e sz (.slice (some ⟨w.heap.size, 0, none⟩) 0 0) 0 [] :=
  World.ownsRow_made w #[] 0 (Nat.le_refl _) (Nat.zero_le _) (by simp)
theorem row_ne {w : World} {base : Nat} {e t : TypeId} {sz n g : Nat} {v : Value} {xs : List Value} {cs : Array Value} (h : w.ownsRow base e sz v n xs) (hg : w.heap[g]? = some (.cells cs t (0, 0))) (hne : e ≠ t) : v.ownBlock ≠ some g := by
  rcases h.2 with ⟨rfl, _⟩ | ⟨g', cap, cur, rfl, _, hh, _⟩
  · simp [Value.ownBlock]
  · intro he
    have : g' = g := by simpa [Value.ownBlock] using he
    subst this
    rw [hh] at hg
    injection hg with hg
    injection hg with _ h2
    exact hne h2

theorem blk_lt {w : World} {g : Nat} {o : Obj} (h : w.heap[g]? = some o) : g < w.heap.size := by
  rcases Nat.lt_or_ge g w.heap.size with hlt | hge
  · exact hlt
  · rw [Array.getElem?_eq_none hge] at h; cases h

theorem blk_ext {w w' : World} (h : Ext w w') {g : Nat} {o : Obj} (hg : w.heap[g]? = some o) : w'.heap[g]? = some o := by
  have h' : Below w.heap.size w w' := h
  rw [h'.block g (blk_lt hg), hg]
theorem blk_grown {w w' : World} {row : Option Nat} (h : w.grownBy w' row) {g : Nat} {o : Obj} (hg : w.heap[g]? = some o) (hne : row ≠ some g) : w'.heap[g]? = some o := by
  rw [h.block g (blk_lt hg) (Ne.symm hne), hg]
theorem blk_far {w : World} {g : Nat} {o : Obj} (hg : w.heap[g]? = some o) {p : Addr} (hne : g ≠ p.block) (u : Value) : (w.setCell p u).heap[g]? = some o := by
  rw [Below.heap_setCell w p u g hne, hg]

theorem blk_set {w : World} {g : Nat} {t : TypeId} {cs : Array Value} (h : w.heap[g]? = some (.cells cs t (0, 0))) (i : Nat) (u : Value) : (w.setCell ⟨g, i, none⟩ u).heap[g]? = some (.cells (cs.setIfInBounds i u) t (0, 0)) := by
  simp [World.setCell, Array.getElem?_modify, h]

theorem own_far {w : World} {base : Nat} {e : TypeId} {sz n : Nat} {v : Value} {xs : List Value} (h : w.ownsRow base e sz v n xs) {p : Addr} (hne : v.ownBlock ≠ some p.block) (u : Value) : (w.setCell p u).ownsRow base e sz v n xs := by
  have hg : w.grownBy (w.setCell p u) (some p.block) := ⟨rfl, rfl, rfl, by simp [World.setCell], fun k _ hk => Below.heap_setCell w p u k (fun e => hk (by rw [e]))⟩
  exact h.kept hg (.inr hne)
theorem cell_alloc_some {w : World} {p : Addr} {u : Value} (h : w.cell? p = some u) (o : Obj) : (w.alloc o).cell? p = some u := ((Ext.refl w).alloc o).cell_some h
theorem cell_drew {w : World} {p : Addr} {u : Value} (h : w.cell? p = some u) : w.drew.cell? p = some u := h
end Go.Proofs.Ytaimljagflnfpaa
