/- 'laws.FnCompactCut' returns true at every input, and leaves its arguments as they were: the statement 'FnCompactCutSaid'. -/
import Derived.Test.YtaimljagflnfpaaOpenS
import Derived.Test.YtaimljagflnfpaaFnCompactCut
namespace Go.Proofs.Ytaimljagflnfpaa.fnCompactCutSaid
open Go.ChangeShapes Go.WideShapes Go.ChangeAt Go.RowKit

theorem contract (H : Type) (enc : TypeId × Value → H) (W : World) (base : Nat) (args : Array Value) (ds gs : List (DataW H)) (before : List MemPlace)
    (hval : ∀ (j : Nat) t v, Try.f3.params[j]? = some t → args[j]? = some v → Value.okWide Try.prog W .any base t v)
    (hW : DataW.Whole enc Try.prog Try.f3.params.toList Rows.fnCompactCutSpec.vars false W args.toList ds gs before)
    (hz : (DataW.weightsEach Try.prog (Try.f3.params.toList ++ Rows.fnCompactCutSpec.plain.varTypes Try.prog) (ds ++ gs)).all (· ≤ reachBytes) = true) :
    Calls Try.prog 3 args W fun e W' => ∃ v, e = .returned v ∧ Rows.fnCompactCutSpec.post enc Try.prog Try.f3 false true false false W args v W' := by
  have hW' := hW
  obtain ⟨p, q, hA0, hV, rfl, hfz, hnd⟩ := hW
  have hA : DataW.TrodAll enc Try.prog W 0 (fun _ => true) true Try.f3.params.toList args.toList ds p := hA0
  rw [Try.params3] at hA hval
  obtain ⟨v0, vs0, d0, ds0, p0, q0, hargs, rfl, rfl, h0, r0⟩ := trodAll_cons hA
  obtain ⟨v1, vs1, d1, ds1, p1, q1, rfl, rfl, rfl, h1, r1⟩ := trodAll_cons r0
  obtain ⟨rfl, rfl, rfl⟩ := trodAll_nil r1
  obtain rfl : args = #[v0, v1] := by cases args; simp_all
  obtain ⟨rfl, rfl⟩ := trodVars_none hV
  clear hA0
  simp only [List.append_nil] at hW'
  have k0 := h0
  obtain ⟨A0, n0, c0, x0, rfl, row0, le0, wf0⟩ := open_ints_sized (hval 0 22 v0 rfl rfl) h0 hz (j := 0) rfl rfl
  have k1 := h1
  obtain ⟨A1, n1, c1, x1, rfl, row1, le1, wf1⟩ := open_ints_sized (hval 1 22 v1 rfl rfl) h1 hz (j := 1) rfl rfl
  have hfin : Calls Try.prog 3 #[.slice A0 n0 c0, .slice A1 n1 c1] W fun e W' => e = .returned (.bool true) ∧ Ext W W' := by
    exact fnCompactCut_ok A0 A1 n0 n1 c0 c1 x0 x1 W row0 row1 le0 le1
  refine hfin.mono fun e W' ⟨he, hext⟩ => ?_
  subst he
  have bel : Below W.heap.size W W' := hext
  exact ⟨_, rfl, _, _, _, [], _, [], hW', trodAll_mk1 (shut_bool Try.underlying4 _), (trodAll_cons_mk (Below.trod laid_out (by kernel_rfl) (of_decide_eq_true (by kernel_rfl)) k0 bel (trod_lt k0)) (trodAll_cons_mk (Below.trod laid_out (by kernel_rfl) (of_decide_eq_true (by kernel_rfl)) k1 bel (trod_lt k1)) trodAll_mk0)), rfl, bel.frame _, fun h => by cases h⟩

set_option maxRecDepth 100000 in
theorem lifted (os : Os) (started : os.Started) (H : Type) (enc : TypeId × Value → H) :
    ReturnsInHanded {} Try.checked os 3 .any (Rows.fnCompactCutSpec.pre6 enc Try.prog Try.f3 Rows.fnCompactCutRow.domain false) (Rows.fnCompactCutSpec.post enc Try.prog Try.f3 false true false false) := by
  refine returnsInHanded_of_change_sized (C := Try.checked) own_knob started (by kernel_rfl) Try.func3
    (ChangeSpec.witness6 (enc := enc) (C := Try.checked) false ⟨#[], #[.slice none 0 0, .slice none 0 0], []⟩ 8 (by kernel_rfl) (by kernel_rfl) (by kernel_rfl) (by kernel_rfl)) ?_
  intro W base args ds gs before hval hW _ hz _
  exact contract H enc W base args ds gs before hval hW hz

theorem proved : Rows.FnCompactCutSaid :=
  OpenClaim.holds_of_wide 3 Try.f3 rfl rfl rfl rfl rfl rfl rfl ⟨rfl, rfl, rfl, rfl, rfl⟩ rfl rfl rfl rfl rfl (by kernel_rfl) Try.func3 (by kernel_rfl)
    (of_decide_eq_true (by kernel_rfl)) (by unfold Func.isWrapper; first | (rw [if_pos (by decide +kernel)]; kernel_rfl) | (rw [if_neg (by decide +kernel)]; exact ⟨rfl, rfl⟩))
    (fun os started H enc _ => lifted os started H enc)
end Go.Proofs.Ytaimljagflnfpaa.fnCompactCutSaid
