/- The laws at single operations, for the walk: append, copy, clear inside a row of the call's own. No statement of the seat is proved here. -/
import Derived.Test.YtaimljagflnfpaaLaws2
namespace Go.Proofs.Ytaimljagflnfpaa
open Go.RowKit

section
variable {P : Program} {ops : Array Oper} {Q : Exit → Act → World → Prop} {rest : List Oper} {a : Act} {w : World}
/-- The walk is to stand at the operation that writes slot d. -/
theorem stand_at (d : Nat) {op : Op} {ty : TypeId} {pos : String} {after : Array Edge} {gd : Option (Nat × Bool)} (h : Stand (wpList P ops Q (⟨some d, op, ty, pos, after, gd⟩ :: rest) a w)) : wpList P ops Q (⟨some d, op, ty, pos, after, gd⟩ :: rest) a w := h
theorem stand_clear {xs : Array Operand} {ts : Array TypeId} {ty : TypeId} {pos : String} {after : Array Edge} {gd : Option (Nat × Bool)} (h : Stand (wpList P ops Q (⟨none, .call ⟨.builtin .clear, xs, ts⟩, ty, pos, after, gd⟩ :: rest) a w)) : wpList P ops Q (⟨none, .call ⟨.builtin .clear, xs, ts⟩, ty, pos, after, gd⟩ :: rest) a w := h

theorem wpList_append_run {o : Oper} (hgd : o.guard = none) (s x : Operand) (ts : Array TypeId) (ho : o.op = .call { callee := .builtin .append, args := #[s, x], argTypes := ts }) (v1 v2 : Value) (hs : a.eval s = v1) (hx : a.eval x = v2) (v : Value) (w' : World)
    (hrun : (Builtin.append_ ts o.type #[v1, v2]).run P w = .ok v w') (h : wpList P ops Q rest (a.put o.dst v) w') : wpList P ops Q (o :: rest) a w := by
  refine wpList_plain hgd fun K hK => ?_
  unfold Oper.wp execOp
  simp only [ho, resolve, invoke, builtin, Sem.run_bind, Sem.run_pure, Result.andThen_ok, List.map_toArray, List.map_cons, List.map_nil, hs, hx, hrun]
  exact hK _ _ h
theorem wpList_copy_run {o : Oper} (hgd : o.guard = none) (s x : Operand) (ts : Array TypeId) (ho : o.op = .call { callee := .builtin .copy, args := #[s, x], argTypes := ts }) (v1 v2 : Value) (hs : a.eval s = v1) (hx : a.eval x = v2) (v : Value) (w' : World)
    (hrun : (Builtin.copy_ ts o.type #[v1, v2]).run P w = .ok v w') (h : wpList P ops Q rest (a.put o.dst v) w') : wpList P ops Q (o :: rest) a w := by
  refine wpList_plain hgd fun K hK => ?_
  unfold Oper.wp execOp
  simp only [ho, resolve, invoke, builtin, Sem.run_bind, Sem.run_pure, Result.andThen_ok, List.map_toArray, List.map_cons, List.map_nil, hs, hx, hrun]
  exact hK _ _ h
theorem wpList_clear_run {o : Oper} (hgd : o.guard = none) (s : Operand) (ts : Array TypeId) (ho : o.op = .call { callee := .builtin .clear, args := #[s], argTypes := ts }) (v1 : Value) (hs : a.eval s = v1) (v : Value) (w' : World)
    (hrun : (Builtin.clear_ ts o.type #[v1]).run P w = .ok v w') (h : wpList P ops Q rest (a.put o.dst v) w') : wpList P ops Q (o :: rest) a w := by
  refine wpList_plain hgd fun K hK => ?_
  unfold Oper.wp execOp
  simp only [ho, resolve, invoke, builtin, Sem.run_bind, Sem.run_pure, Result.andThen_ok, List.map_toArray, List.map_cons, List.map_nil, hs, hrun]
  exact hK _ _ h
end

section
variable {P : Program} {ops : Array Oper} {Q : Exit → Act → World → Prop} {a : Act} {w : World} {K : Act → World → Prop} {Els : Prop}
theorem step_append_run {o : Oper} (hgd : o.guard = none) (s x : Operand) (ts : Array TypeId) (ho : o.op = .call { callee := .builtin .append, args := #[s, x], argTypes := ts }) (v1 v2 : Value) (hs : a.eval s = v1) (hx : a.eval x = v2) (v : Value) (w' : World)
    (hrun : (Builtin.append_ ts o.type #[v1, v2]).run P w = .ok v w') (h : K (a.put o.dst v) w') : if Region.wanted o (yielded ops a.tmps) = true then Oper.wp P o a w K Q else Els := by
  have hw : Region.wanted o (yielded ops a.tmps) = true := by simp [Region.wanted, hgd]
  rw [if_pos hw]
  unfold Oper.wp execOp
  simp only [ho, resolve, invoke, builtin, Sem.run_bind, Sem.run_pure, Result.andThen_ok, List.map_toArray, List.map_cons, List.map_nil, hs, hx, hrun]
  exact h
theorem step_copy_run {o : Oper} (hgd : o.guard = none) (s x : Operand) (ts : Array TypeId) (ho : o.op = .call { callee := .builtin .copy, args := #[s, x], argTypes := ts }) (v1 v2 : Value) (hs : a.eval s = v1) (hx : a.eval x = v2) (v : Value) (w' : World)
    (hrun : (Builtin.copy_ ts o.type #[v1, v2]).run P w = .ok v w') (h : K (a.put o.dst v) w') : if Region.wanted o (yielded ops a.tmps) = true then Oper.wp P o a w K Q else Els := by
  have hw : Region.wanted o (yielded ops a.tmps) = true := by simp [Region.wanted, hgd]
  rw [if_pos hw]
  unfold Oper.wp execOp
  simp only [ho, resolve, invoke, builtin, Sem.run_bind, Sem.run_pure, Result.andThen_ok, List.map_toArray, List.map_cons, List.map_nil, hs, hx, hrun]
  exact h
end

section
variable {P : Program} {t e : TypeId} {sz bytes : Nat}
/-- The second argument's type has no say, as long as it is a slice. -/
theorem run_app_types {t' e' : TypeId} (ht : P.underlying t = some (.slice e)) (ht' : P.underlying t' = some (.slice e')) (w : World) (ty : TypeId) (v x : Value) :
    (Builtin.append_ #[t, t'] ty #[v, x]).run P w = (Builtin.append_ #[t, t] ty #[v, x]).run P w := by
  cases v <;> simp [Builtin.append_, run_underlying ht, run_underlying ht']

theorem nextslicecap_le (need c : Nat) (h : c < need) : Builtin.nextslicecap need c ≤ 2 * need + 1024 := by
  unfold Builtin.nextslicecap
  split
  · omega
  · split
    · omega
    · have hg : ∀ r c : Nat, c ≤ 2 * need + 1024 → Builtin.growBy need r c ≤ 2 * need + 1024 := by
        intro r
        induction r with
        | zero => intro c hc; exact hc
        | succ r ih =>
          intro c hc
          unfold Builtin.growBy
          split
          · exact hc
          · exact ih _ (by omega)
      exact hg 4 c (by omega)

/-- append(s[:i], make(S, k)...) where there is no room: a new row. -/
theorem run_app_zeros (E : El P t e sz bytes) {z : Value} (hz : (P.info? e).bind (·.zero) = some z) {tn : TypeId} {kn : IntKind} (htn : P.underlying tn = some (.int kn)) (w : World) (ty : TypeId) (A : Option Addr) (i c k : Nat) (cs : List Value) (hr : Row w sz A i c cs)
    (h0 : 0 < k) (hc : c < i + k) (hb : (2 * (i + k) + 1024) * bytes ≤ 281474976710656) (h63 : i + k ≤ maxLen) :
    ∃ (c' : Nat) (cur : List Value), (Builtin.append_ #[t, tn] ty #[.slice A i c, .int .i64 (k : Int)]).run P w = .ok (.slice (some ⟨w.heap.size, 0, none⟩) (i + k) c') (w.drew.alloc (.cells cur.toArray e)) ∧
      i + k ≤ c' ∧ c' ≤ maxLen ∧ cur.length = c' * sz ∧ cur.take (i * sz) = cs := by
  have hf := run_first (P := P) w.drew A i c i cs hr (Nat.le_refl _)
  have e1 : cs.take (i * sz) = cs := List.take_of_length_le (by rw [hr.1]; exact Nat.le_refl _)
  rw [e1] at hf
  obtain ⟨ht, ⟨inf, z', hi, hz', hs, hby, hzs⟩, hpos⟩ := E
  have hzz : z' = z := by rw [hi] at hz; simp [hz'] at hz; exact hz
  subst hzz hs hby
  have hns := nextslicecap_le (i + k) c hc
  have hns2 : Builtin.nextslicecap (i + k) c * inf.bytes ≤ (2 * (i + k) + 1024) * inf.bytes := Nat.mul_le_mul_right _ hns
  have hkb : k * inf.bytes ≤ (2 * (i + k) + 1024) * inf.bytes := Nat.mul_le_mul_right _ (by omega)
  have h63' : ((i + k : Nat) : Int) ≤ 9223372036854775807 := by unfold maxLen at h63; omega
  have hrun := Lib.run_append_grow_zeros (P := P) w t tn ty e inf z' .i64 kn ht htn hi hz' A i c cs hf k h0 hpos hc h63' (by omega) (by omega)
  have hge := grownCap_ge w (i + k) c e
  refine ⟨_, cs ++ (zeros z' k ++ zeros z' (grownCap w (i + k) c e - (i + k))), ?_, hge, grownCap_le_maxLen w (i + k) c e h63, ?_, ?_⟩
  · rw [hrun]
    have ha : cs.toArray ++ Builtin.zeroCells z'.cells k ++ Builtin.zeroCells z'.cells (grownCap w (i + k) c e - (i + k)) = (cs ++ (zeros z' k ++ zeros z' (grownCap w (i + k) c e - (i + k)))).toArray := by
      apply Array.ext'
      simp [zeros]
    rw [ha]
  · simp only [List.length_append, zeros_length, hzs, hr.1]
    rw [← Nat.add_mul, ← Nat.add_mul]
    congr 1
    omega
  · rw [List.take_append_of_le_length (by rw [hr.1]; exact Nat.le_refl _)]
    exact e1
end
end Go.Proofs.Ytaimljagflnfpaa
