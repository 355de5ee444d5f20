/- Laws for append whose two arguments have two slice types. No statement of the seat is proved here. -/
import Derived.Test.YtefeedpeiiaanaaLaws3
namespace Go.Proofs.Ytefeedpeiiaanaa
open Go.RowKit

section
variable {P : Program} {t e : TypeId} {sz bytes : Nat}
theorem wp_app2 {t' e' : TypeId} (E : El P t e sz bytes) (ht' : P.underlying t' = some (.slice e')) {w : World} {o : Oper} {a : Act} {K : Act → World → Prop} {Q : Exit → Act → World → Prop} (s x : Operand)
    (ho : o.op = .call { callee := .builtin .append, args := #[s, x], argTypes := #[t, t'] })
    (base : Nat) (v : Value) (n : Nat) (xs : List Value) (hs : a.eval s = v) (hown : w.ownsRow base e sz v n xs)
    (A : Option Addr) (m c : Nat) (news : List Value) (hx : a.eval x = .slice A m c) (hr : Row w sz A m c news) (h1 : ∀ u ∈ news, u.oneCell' = true)
    (hb : (n + m) * bytes ≤ 140737488355328) (h63 : n + m ≤ maxLen) (hbase : base ≤ w.heap.size)
    (h : ∀ A' c' w', Hid (w'.ownsRow base e sz (.slice A' (n + m) c') (n + m) (xs ++ news)) → Hid (w.grownBy w' v.ownBlock) → Hid ((Value.slice A' (n + m) c').ownBlock = v.ownBlock ∨ (Value.slice A' (n + m) c').ownBlock = some w.heap.size) → K (a.put o.dst (.slice A' (n + m) c')) w') : o.wp P a w K Q := by
  obtain ⟨v', w', hrun, h2, h3, h4⟩ := run_app E w o.type base v n xs hown A m c news hr h1 hb h63 hbase
  rw [← run_app_types E.ht ht' w o.type v (.slice A m c)] at hrun
  unfold Oper.wp execOp
  simp only [ho, resolve, invoke, builtin, Sem.run_bind, Sem.run_pure, Result.andThen_ok, List.map_toArray, List.map_cons, List.map_nil, hs, hx, hrun]
  obtain ⟨A', c', rfl, _⟩ := own_form h2
  exact h A' c' w' h2 h3 h4
theorem wpList_apps2 {t' e' : TypeId} (E : El P t e sz bytes) (ht' : P.underlying t' = some (.slice e')) {w : World} {ops : Array Oper} {rest : List Oper} {o : Oper} {a : Act} {Q : Exit → Act → World → Prop} (hgd : o.guard = none) (s x : Operand)
    (ho : o.op = .call { callee := .builtin .append, args := #[s, x], argTypes := #[t, t'] })
    (base : Nat) (v : Value) (n : Nat) (xs : List Value) (hs : a.eval s = v) (hown : w.ownsRow base e sz v n xs)
    (A : Option Addr) (m c : Nat) (news : List Value) (hx : a.eval x = .slice A m c) (hr : Row w sz A m c news) (h1 : ∀ u ∈ news, u.oneCell' = true)
    (hb : (n + m) * bytes ≤ 140737488355328) (h63 : n + m ≤ maxLen) (hbase : base ≤ w.heap.size)
    (h : ∀ A' c' w', Hid (w'.ownsRow base e sz (.slice A' (n + m) c') (n + m) (xs ++ news)) → Hid (w.grownBy w' v.ownBlock) → Hid ((Value.slice A' (n + m) c').ownBlock = v.ownBlock ∨ (Value.slice A' (n + m) c').ownBlock = some w.heap.size) → wpList P ops Q rest (a.put o.dst (.slice A' (n + m) c')) w') : wpList P ops Q (o :: rest) a w :=
  wpList_plain hgd fun _ hK => wp_app2 E ht' s x ho base v n xs hs hown A m c news hx hr h1 hb h63 hbase fun A' c' w' h2 h3 h4 => hK _ _ (h A' c' w' h2 h3 h4)
theorem step_apps2 {t' e' : TypeId} (E : El P t e sz bytes) (ht' : P.underlying t' = some (.slice e')) {w : World} {ops : Array Oper} {o : Oper} {a : Act} {K : Act → World → Prop} {Q : Exit → Act → World → Prop} {Els : Prop} (hgd : o.guard = none) (s x : Operand)
    (ho : o.op = .call { callee := .builtin .append, args := #[s, x], argTypes := #[t, t'] })
    (base : Nat) (v : Value) (n : Nat) (xs : List Value) (hs : a.eval s = v) (hown : w.ownsRow base e sz v n xs)
    (A : Option Addr) (m c : Nat) (news : List Value) (hx : a.eval x = .slice A m c) (hr : Row w sz A m c news) (h1 : ∀ u ∈ news, u.oneCell' = true)
    (hb : (n + m) * bytes ≤ 140737488355328) (h63 : n + m ≤ maxLen) (hbase : base ≤ w.heap.size)
    (h : ∀ A' c' w', Hid (w'.ownsRow base e sz (.slice A' (n + m) c') (n + m) (xs ++ news)) → Hid (w.grownBy w' v.ownBlock) → Hid ((Value.slice A' (n + m) c').ownBlock = v.ownBlock ∨ (Value.slice A' (n + m) c').ownBlock = some w.heap.size) → K (a.put o.dst (.slice A' (n + m) c')) w') :
    if Region.wanted o (yielded ops a.tmps) = true then Oper.wp P o a w K Q else Els := by
  have hw : Region.wanted o (yielded ops a.tmps) = true := by simp [Region.wanted, hgd]
  rw [if_pos hw]
  exact wp_app2 E ht' s x ho base v n xs hs hown A m c news hx hr h1 hb h63 hbase h
end
end Go.Proofs.Ytefeedpeiiaanaa
