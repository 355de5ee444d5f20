/- Facts that last, for regions that draw their order. No statement of the seat is proved here. -/
import Derived.Test.YtjmbdaofnnmldaaMono
import Derived.Test.YtjmbdaofnnmldaaLaws
namespace Go.Proofs.Ytjmbdaofnnmldaa
open Go.RowKit

/-- A fact of a value that stays true when blocks are new. -/
def Lasts (f : Value → World → Prop) : Prop := ∀ v w w', f v w → Ext w w' → f v w'
def AllLast : List (Value → World → Prop) → Prop
  | [] => True
  | f :: r => Lasts f ∧ AllLast r
def factAt (Fs : List (Value → World → Prop)) (k : Nat) : Value → World → Prop := Fs.getD k (fun _ _ => True)
theorem allLast_at : ∀ (Fs : List (Value → World → Prop)), AllLast Fs → ∀ k, Lasts (factAt Fs k)
  | [], _, k => by intro v w w' _ _; simp [factAt]
  | f :: r, h, 0 => h.1
  | f :: r, h, k + 1 => allLast_at r h.2 k

theorem wp_region_ext {P : Program} {id : Nat} {Q : Exit → Act → World → Prop} {a : Act} {w : World} {l : List Oper} (n : Nat) (Fs : List (Value → World → Prop)) (D : List Nat)
    (hm : P.follows .mixedOrders = true) (hB : monoB l.toArray n a.tmps.size D = true) (hT : tailB l.toArray n = true) (hF : AllLast Fs)
    (h : Lex P l.toArray Ext (Ext w) (factAt Fs) D (fun a w => wpList P l.toArray Q (l.drop n) a w) (l.take n) a []) : (Code.region id l.toArray true).wp P Q a w :=
  wp_region_mono n Ext (Ext w) (factAt Fs) D hm hB hT (fun _ _ h h' => h.trans h') (fun k v w w' _ h h' => allLast_at Fs hF k v w w' h h') (fun _ _ h => h.size) (Ext.refl w).drew h

/-- One operation of the region's head. -/
theorem lex_one {P : Program} {ops : Array Oper} {R : World → World → Prop} {C : World → Prop} {F : Nat → Value → World → Prop} {D : List Nat} {Q : Act → World → Prop} {o : Oper} {rest : List Oper} {a : Act} {rv : List Value}
    (h1 : ∀ w, C w → Deps F rv w (waits o) → ∀ J : Exit → Act → World → Prop, Hid (∀ a' w', OpPost R D rv.length (F rv.length) o.dst a w .normal a' w' → J .normal a' w') → wpList P ops J [o] a w)
    (h2 : ∀ K : Act → List Value → Prop, (∀ a r, Lex P ops R C F D Q rest a r → K a r) → ∀ v, K (a.put o.dst v) (v :: rv)) : Lex P ops R C F D Q (o :: rest) a rv :=
  lex_step (fun w hC hd J hJ => h1 w hC hd J (Lib.hid hJ)) h2

/-- One operation of the head that leaves a value and nothing else. -/
theorem lex_val {P : Program} {ops : Array Oper} {R : World → World → Prop} {C : World → Prop} {F : Nat → Value → World → Prop} {D : List Nat} {Q : Act → World → Prop} {o : Oper} {rest : List Oper} {a : Act} {rv : List Value} (d : Tmp) (hd : o.dst = some d) (hlt : d < a.tmps.size) (hgd : o.guard = none) (hD : D.contains rv.length = false) (hR : ∀ w, R w w)
    (h1 : ∀ w, C w → Deps F rv w (waits o) → ∃ v, (execOp a.eval o).run P w = .ok (.value v) w ∧ F rv.length v w) (h2 : ∀ v, Lex P ops R C F D Q rest (a.put o.dst v) (v :: rv)) : Lex P ops R C F D Q (o :: rest) a rv := by
  refine ⟨fun w hC hdp => ?_, h2⟩
  obtain ⟨v, hrun, hF⟩ := h1 w hC hdp
  refine wpList_plain hgd fun K hK => ?_
  unfold Oper.wp
  rw [hrun]
  refine hK _ _ ?_
  have e : ((o.dst.map (fun d => (a.put o.dst v).tmps.getD d undef)).getD undef) = v := by
    rw [hd]
    simp [get_put_same a d v hlt]
  refine ⟨rfl, put_defers' _ _ _, hR w, ?_, ?_⟩
  · rw [Fr, if_neg (by rw [hD]; simp)]
    trivial
  · rw [e]
    exact hF

/-- The value is known. -/
def Is (u : Value) : Value → World → Prop := fun v _ => v = u
theorem Is.last (u : Value) : Lasts (Is u) := fun _ _ _ h _ => h
/-- A fact of the value alone. -/
def Say (p : Value → Prop) : Value → World → Prop := fun v _ => p v
theorem Say.last (p : Value → Prop) : Lasts (Say p) := fun _ _ _ h _ => h
/-- A pointer to a block that is known whole. -/
def PtrTo (t : TypeId) (cs : Array Value) : Value → World → Prop := fun v w => ∃ g : Nat, v = .pointer (some ⟨g, 0, none⟩) ∧ w.heap[g]? = some (.cells cs t (0, 0))
theorem PtrTo.last (t : TypeId) (cs : Array Value) : Lasts (PtrTo t cs) := fun _ _ _ ⟨g, h, k⟩ hx => ⟨g, h, blk_ext hx k⟩
/-- A slice that reads as cells. -/
def Rd (sz n : Nat) (cs : List Value) : Value → World → Prop := fun v w => ∃ A c, v = .slice A n c ∧ Row w sz A n c cs
theorem Rd.last (sz n : Nat) (cs : List Value) : Lasts (Rd sz n cs) := fun _ _ _ ⟨A, c, h, k⟩ hx => ⟨A, c, h, k.ext hx⟩
/-- A pointer to a cell that is known. -/
def CellIs (u : Value) : Value → World → Prop := fun v w => ∃ ad, v = .pointer (some ad) ∧ w.cell? ad = some u
theorem CellIs.last (u : Value) : Lasts (CellIs u) := fun _ _ _ ⟨ad, h, k⟩ hx => ⟨ad, h, hx.cell_some k⟩
theorem opPost_mk {D : List Nat} {k : Nat} {G : Value → World → Prop} {dst : Option Tmp} {a0 a : Act} {w w' : World} (h1 : a.defers = a0.defers) (h2 : Ext w w') (h3 : Fr D k w ((dst.map (fun d => a.tmps.getD d undef)).getD undef) w') (h4 : G ((dst.map (fun d => a.tmps.getD d undef)).getD undef) w') : OpPost Ext D k G dst a0 w .normal a w' :=
  ⟨rfl, h1, h2, h3, h4⟩
end Go.Proofs.Ytjmbdaofnnmldaa
