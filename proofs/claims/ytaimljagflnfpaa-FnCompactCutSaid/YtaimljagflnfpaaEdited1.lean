/- The contract of impl.edited, kind by kind: the deferred closure; an edit that inserts. No statement of the seat is proved here. -/
import Derived.Test.YtaimljagflnfpaaOutInt
import Derived.Test.YtaimljagflnfpaaDeleteInt
import Derived.Test.YtaimljagflnfpaaReplaceInt2
import Derived.Test.YtaimljagflnfpaaConcatInt
import Derived.Test.YtaimljagflnfpaaCompactInt
import Derived.Recover
namespace Go.Proofs.Ytaimljagflnfpaa
open Go.RowKit

theorem catch_panicking (p po pp : Addr) (A : Option Addr) (n c : Nat) (x y : Value) (u : TypeId) (pv : Value) (older : List PanicEntry) (w : World) (hc : w.cell? p = some (.slice A n c)) (ho : w.cell? po = some x) (hoz : w.frozen? po = false) (hp : (w.setCell po (.slice A n c)).cell? pp = some y) (hpz : (w.setCell po (.slice A n c)).frozen? pp = false) :
    CallsD Try.prog 27 #[.pointer (some p), .pointer (some po), .pointer (some pp)] (.panicking ({ v := .iface u pv, recovered := false } :: older)) w fun e u' w' =>
      e = .returned (.tuple #[]) ∧ u' = .panicking ({ v := .iface u pv, recovered := true } :: older) ∧ w' = (w.setCell po (.slice A n c)).setCell pp (.bool true) := by
  refine callsD_of_wpS Try.func27 rfl fun c₀ cs hu => ?_
  apply wpS_seq
  apply wpS_region
  simp [wpOpsS, go_sem, recoverD, hu, Try.ntmps27, Exit.thenS]
  refine wpS_cond (t := true) (by simp [Act.eval, Array.replicate]) ?_
  simp only [if_true]
  apply wpS_region
  simp [wpOpsS, go_sem, hc, ho, hoz, hp, hpz, bodyPostS, results, Try.results27]

theorem catch_idle (p po pp : Addr) (w : World) :
    CallsD Try.prog 27 #[.pointer (some p), .pointer (some po), .pointer (some pp)] .returning w fun e u' w' => e = .returned (.tuple #[]) ∧ u' = .returning ∧ w' = w := by
  refine callsD_of_wpS Try.func27 rfl fun c₀ cs hu => ?_
  apply wpS_seq
  apply wpS_region
  simp [wpOpsS, go_sem, recoverD, hu, Try.ntmps27, Exit.thenS]
  refine wpS_cond (t := false) (by simp [Act.eval, Array.replicate]) ?_
  simp only [Bool.false_eq_true, if_false]
  refine wpS_of_wp (wp_skip ?_)
  cases c₀
  simp_all [bodyPostS, results, Try.results27]

/-- What is left behind a call that edits a row, or makes a new one. -/
def EditedTo (w : World) (base : Nat) (v : Value) (n : Nat) (xs : List Value) (stay : Prop) (e : Ending) (w' : World) : Prop :=
  ∃ v', e = .returned v' ∧ w'.ownsRow base 3 1 v' n xs ∧ w.grownBy w' v.ownBlock ∧ (v'.ownBlock = v.ownBlock ∨ (∀ g, v'.ownBlock = some g → w.heap.size ≤ g) ∧ OldKept w' v) ∧ (stay → v'.ownBlock = v.ownBlock)
theorem EditedInt.to {w w' : World} {base n : Nat} {v : Value} {xs : List Value} {stay : Prop} {e : Ending} (h : EditedInt w base v n xs stay e w') : EditedTo w base v n xs stay e w' := by
  obtain ⟨v', h1, h2, h3, h4, h5⟩ := h
  refine ⟨v', h1, h2, h3, ?_, h5⟩
  rcases h4 with h | ⟨⟨g, h, hg⟩, ho⟩
  · exact .inl h
  · exact .inr ⟨fun g' hg' => by rw [h] at hg'; injection hg' with e; omega, ho⟩
/-- An edit that leaves a list in its memory, room: whether there is room for what is inserted. -/
def Stays (e : Edt) (room : Prop) : Prop := e.1 = 1 ∨ e.1 = 3 ∨ (e.1 = 2 ∧ (e.2.2.2.length : Int) ≤ e.2.2.1 - e.2.1) ∨ (e.1 = 0 ∧ room)
/-- What impl.edited leaves. -/
def EdPost (w : World) (base : Nat) (v : Value) (l : List Int) (e : Edt) (en : Ending) (w' : World) : Prop :=
  ∃ v', en = .returned (.tuple #[v', .bool (outP l e)]) ∧ w'.ownsRow base 3 1 v' (stepP l e).length (ints (stepP l e)) ∧ w.grownBy w' v.ownBlock ∧ (v'.ownBlock = v.ownBlock ∨ (∀ g, v'.ownBlock = some g → w.heap.size ≤ g) ∧ OldKept w' v) ∧
    (outP l e = false → Stays e (l.length + e.2.2.2.length ≤ capOf v) → v'.ownBlock = v.ownBlock) ∧ (e.1 = 4 → ∀ g, v'.ownBlock = some g → w.heap.size ≤ g)
def edV (e : Edt) (B : Option Addr) (d : Nat) : Value := .agg #[.int .i64 e.1, .int .i64 e.2.1, .int .i64 e.2.2.1, .slice B e.2.2.2.length d]

theorem own_blk_lt {w : World} {base : Nat} {e : TypeId} {sz n : Nat} {v : Value} {xs : List Value} (h : w.ownsRow base e sz v n xs) : v.ownBlock = none ∨ ∃ g, v.ownBlock = some g ∧ g < w.heap.size := by
  cases hb : v.ownBlock with
  | none => exact .inl rfl
  | some g => exact .inr ⟨g, rfl, (h.lt g hb).2⟩
theorem own_blk_ne {w : World} {base : Nat} {e : TypeId} {sz n : Nat} {v : Value} {xs : List Value} (h : w.ownsRow base e sz v n xs) (q : Nat) (hq : w.heap.size ≤ q) : v.ownBlock ≠ some q := fun he => by
  have := (h.lt q he).2
  omega
theorem own_base {w : World} {base : Nat} {e : TypeId} {sz n : Nat} {v : Value} {xs : List Value} (h : w.ownsRow base e sz v n xs) : w.ownsRow 0 e sz v n xs := by
  refine ⟨h.1, ?_⟩
  rcases h.2 with h0 | ⟨g, cap, cur, h1, _, h2⟩
  · exact .inl h0
  · exact .inr ⟨g, cap, cur, h1, Nat.zero_le _, h2⟩
theorem grown_far {a w : World} {row : Option Nat} (h : a.grownBy w row) {p : Addr} (hp : a.heap.size ≤ p.block) (u : Value) : a.grownBy (w.setCell p u) row :=
  ⟨h.os, h.tape, h.output, by have := h.size; simpa [World.setCell] using this, fun k hk hr => by rw [Below.heap_setCell w p u k (by omega)]; exact h.block k hk hr⟩
theorem ed_frame (w w1 : World) (o0 o1 o2 o3 o4 : Obj) (hg : (((((w.alloc o0).alloc o1).alloc o2).alloc o3).alloc o4).grownBy w1 (some (w.heap.size + 1 + 1 + 1 + 1))) :
    w1.heap[w.heap.size]? = some o0 ∧ w1.heap[w.heap.size + 1]? = some o1 ∧ w1.heap[w.heap.size + 1 + 1]? = some o2 ∧ w1.heap[w.heap.size + 1 + 1 + 1]? = some o3 ∧ Ext w w1 ∧ w.heap.size + 1 + 1 + 1 + 1 < w1.heap.size := by
  have h0 := heap_alloc_new w o0
  have h1 : ((w.alloc o0).alloc o1).heap[w.heap.size + 1]? = some o1 := by have := heap_alloc_new (w.alloc o0) o1; simpa using this
  have h2 : (((w.alloc o0).alloc o1).alloc o2).heap[w.heap.size + 1 + 1]? = some o2 := by have := heap_alloc_new ((w.alloc o0).alloc o1) o2; simpa using this
  have h3 : ((((w.alloc o0).alloc o1).alloc o2).alloc o3).heap[w.heap.size + 1 + 1 + 1]? = some o3 := by have := heap_alloc_new (((w.alloc o0).alloc o1).alloc o2) o3; simpa using this
  have hz := hg.size
  simp at hz
  refine ⟨blk_grown hg (blk_ext ((((Ext.refl _).alloc _).alloc _).alloc _ |>.alloc _) h0) (by simp; omega), blk_grown hg (blk_ext (((Ext.refl _).alloc _).alloc _ |>.alloc _) h1) (by simp; omega), blk_grown hg (blk_ext (((Ext.refl _).alloc _).alloc _) h2) (by simp; omega),
    blk_grown hg (blk_ext ((Ext.refl _).alloc _) h3) (by simp), ?_, by omega⟩
  exact (((((Ext.refl w).alloc _).alloc _).alloc _).alloc _ |>.alloc _).grown hg fun k hk => by injection hk with hk; omega
/-- What is left behind an edit that is made, the results laid. -/
theorem ed_close (w W1 w2 : World) (base : Nat) (v v' : Value) (n N : Nat) (l xs : List Value) (stay : Prop) (hx : Ext w W1) (hsz : w.heap.size + 1 + 1 + 1 + 1 < W1.heap.size) (hown : w.ownsRow base 3 1 v n l) (hed : EditedTo W1 base v N xs stay (.returned v') w2) (y1 y2 : Value) :
    ((w2.setCell ⟨w.heap.size + 1 + 1, 0, none⟩ y1).setCell ⟨w.heap.size + 1 + 1 + 1, 0, none⟩ y2).ownsRow base 3 1 v' N xs ∧ w.grownBy ((w2.setCell ⟨w.heap.size + 1 + 1, 0, none⟩ y1).setCell ⟨w.heap.size + 1 + 1 + 1, 0, none⟩ y2) v.ownBlock ∧
      (v'.ownBlock = v.ownBlock ∨ (∀ g, v'.ownBlock = some g → w.heap.size ≤ g) ∧ OldKept ((w2.setCell ⟨w.heap.size + 1 + 1, 0, none⟩ y1).setCell ⟨w.heap.size + 1 + 1 + 1, 0, none⟩ y2) v) ∧ (stay → v'.ownBlock = v.ownBlock) := by
  obtain ⟨v2, e, h1, h2, h3, h4⟩ := hed
  injection e with e
  subst e
  have hz := hx.size
  have hne : ∀ q, w.heap.size ≤ q → q < W1.heap.size → v'.ownBlock ≠ some q := by
    intro q hq hq2 he
    rcases h3 with h | ⟨h, _⟩
    · rw [h] at he
      exact own_blk_ne hown q hq he
    · have := h q he; omega
  refine ⟨own_far (own_far h1 (hne (w.heap.size + 1 + 1) (by omega) (by omega)) _) (hne (w.heap.size + 1 + 1 + 1) (by omega) (by omega)) _, grown_far (grown_far (grown_trans (grown_of_ext hx _) h2) (by simp; omega) _) (by simp; omega) _, ?_, h4⟩
  rcases h3 with h | ⟨h, ho⟩
  · exact .inl h
  · refine .inr ⟨fun g hg => by have := h g hg; omega, fun b hb => ?_⟩
    have hlt := (hown.lt b hb).2
    obtain ⟨cur, hk⟩ := ho b hb
    exact ⟨cur, blk_far (blk_far hk (by show b ≠ w.heap.size + 1 + 1; omega) _) (by show b ≠ w.heap.size + 1 + 1 + 1; omega) _⟩
/-- The blocks of the call's own stand behind the edit. -/
theorem ed_kept (w W1 w2 : World) (base : Nat) (v : Value) (n N : Nat) (l xs : List Value) (stay : Prop) (e : Ending) (hown : w.ownsRow base 3 1 v n l) (hed : EditedTo W1 base v N xs stay e w2) {g : Nat} {o : Obj} (hb : W1.heap[g]? = some o) (hg : w.heap.size ≤ g) : w2.heap[g]? = some o := by
  obtain ⟨v2, _, _, h2, _⟩ := hed
  refine blk_grown h2 hb fun he => ?_
  have := (hown.lt g he).2
  omega
theorem ed_post {w w3 : World} {base N : Nat} {v v' : Value} {l r : List Int} {e : Edt} {stay : Prop} (hP : editP l e = some r) (hN : r.length = N) (e1 : w3.ownsRow base 3 1 v' N (ints r)) (e2 : w.grownBy w3 v.ownBlock) (e3 : v'.ownBlock = v.ownBlock ∨ (∀ g, v'.ownBlock = some g → w.heap.size ≤ g) ∧ OldKept w3 v)
    (e4 : stay → v'.ownBlock = v.ownBlock) (hs : Stays e (l.length + e.2.2.2.length ≤ capOf v) → stay) (h4 : e.1 = 4 → ∀ g, v'.ownBlock = some g → w.heap.size ≤ g) : EdPost w base v l e (.returned (.tuple #[v', .bool false])) w3 := by
  have hst : stepP l e = r := by unfold stepP; rw [hP]; rfl
  have hot : outP l e = false := by unfold outP; rw [hP]; rfl
  subst hN
  exact ⟨v', by rw [hot], by rw [hst]; exact e1, e2, e3, fun _ h => e4 (hs h), h4⟩
theorem ed_post_out {w w3 : World} {base n : Nat} {v : Value} {l : List Int} {e : Edt} (hP : editP l e = none) (hN : l.length = n) (e1 : w3.ownsRow base 3 1 v n (ints l)) (e2 : w.grownBy w3 v.ownBlock) (h4 : e.1 ≠ 4) : EdPost w base v l e (.returned (.tuple #[v, .bool true])) w3 := by
  have hst : stepP l e = l := by unfold stepP; rw [hP]; rfl
  have hot : outP l e = true := by unfold outP; rw [hP]; rfl
  subst hN
  exact ⟨v, by rw [hot], by rw [hst]; exact e1, e2, .inl rfl, fun h => (by rw [hot] at h; cases h), fun h => absurd h h4⟩
theorem lists_two (w : World) (A B : Option Addr) (n c m d : Nat) (l vs : List Int) (h1 : Row w 1 A n c (ints l)) (h2 : Row w 1 B m d (ints vs)) :
    Lists (w.alloc (.cells #[.slice A n c, .slice B m d] 22)) (some ⟨w.heap.size, 0, none⟩) 2 2 [l, vs] := by
  refine ⟨[.slice A n c, .slice B m d], Row.fresh w _ 1 #[.slice A n c, .slice B m d] 2 rfl (by unfold maxLen; omega), rfl, fun i xs hx => ?_⟩
  rcases i with _ | _ | i
  · simp at hx; subst hx; exact ⟨A, n, c, rfl, h1.alloc _⟩
  · simp at hx; subst hx; exact ⟨B, m, d, rfl, h2.alloc _⟩
  · simp at hx
theorem concat_two (W1 : World) (base : Nat) (A B : Option Addr) (n c m d : Nat) (l vs : List Int) (h1 : Row W1 1 A n c (ints l)) (h2 : Row W1 1 B m d (ints vs)) (_ : n ≤ 17592186043904) (hm : n + m ≤ 17592186043904) (hb : base ≤ W1.heap.size) (hold : OldKept W1 (.slice A n c)) :
    Calls Try.prog 32 #[.slice (some ⟨W1.heap.size, 0, none⟩) 2 2] (W1.alloc (.cells #[.slice A n c, .slice B m d] 22)) fun e w' => EditedTo W1 base (.slice A n c) (n + m) (ints (l ++ vs)) False e w' ∧ ∀ v', e = .returned v' → ∀ g, v'.ownBlock = some g → W1.heap.size ≤ g := by
  have e1 : [l, vs].flatten = l ++ vs := by simp
  have e2 : (l ++ vs).length = n + m := by rw [List.length_append, h1.ints_len, h2.ints_len]
  refine (concatInt_ok (some ⟨W1.heap.size, 0, none⟩) 2 2 [l, vs] _ (lists_two W1 A B n c m d l vs h1 h2) (by rw [e1, e2]; omega)).mono fun e w' ⟨v', he, ho, hx⟩ => ?_
  rw [e1, e2] at ho
  have hz : W1.heap.size ≤ (W1.alloc (.cells #[.slice A n c, .slice B m d] 22)).heap.size := ((Ext.refl W1).alloc _).size
  have hx1 : Ext W1 w' := ((Ext.refl W1).alloc _).trans hx
  have hnew : ∀ g, v'.ownBlock = some g → W1.heap.size ≤ g := fun g hg => Nat.le_trans hz (ho.lt g hg).1
  refine ⟨⟨v', he, own_up ho (Nat.le_trans hb hz), grown_of_ext hx1 _, .inr ⟨hnew, fun b hb => let ⟨cur, hk⟩ := hold b hb; ⟨cur, hk.ext hx1⟩⟩, fun h => h.elim⟩, fun v2 h2 g hg => ?_⟩
  rw [he] at h2
  injection h2 with h2
  subst h2
  exact hnew g hg
end Go.Proofs.Ytaimljagflnfpaa
