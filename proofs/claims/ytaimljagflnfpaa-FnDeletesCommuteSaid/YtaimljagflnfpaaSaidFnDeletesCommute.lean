/- 'laws.FnDeletesCommute' returns true at every input, and leaves its arguments as they were: the statement 'FnDeletesCommuteSaid'. -/
import Derived.Test.YtaimljagflnfpaaOpenS
import Derived.Test.YtaimljagflnfpaaFnDeletesCommute
namespace Go.Proofs.Ytaimljagflnfpaa.fnDeletesCommuteSaid
open Go.ChangeShapes Go.WideShapes Go.ChangeAt Go.RowKit

theorem contract (H : Type) (enc : TypeId × Value → H) (W : World) (base : Nat) (args : Array Value) (ds gs : List (DataW H)) (before : List MemPlace)
    (hval : ∀ (j : Nat) t v, Try.f5.params[j]? = some t → args[j]? = some v → Value.okWide Try.prog W .any base t v)
    (hW : DataW.Whole enc Try.prog Try.f5.params.toList Rows.fnDeletesCommuteSpec.vars false W args.toList ds gs before)
    (hz : (DataW.weightsEach Try.prog (Try.f5.params.toList ++ Rows.fnDeletesCommuteSpec.plain.varTypes Try.prog) (ds ++ gs)).all (· ≤ reachBytes) = true) :
    Calls Try.prog 5 args W fun e W' => ∃ v, e = .returned v ∧ Rows.fnDeletesCommuteSpec.post enc Try.prog Try.f5 false true false false W args v W' := by
  have hW' := hW
  obtain ⟨p, q, hA0, hV, rfl, hfz, hnd⟩ := hW
  have hA : DataW.TrodAll enc Try.prog W 0 (fun _ => true) true Try.f5.params.toList args.toList ds p := hA0
  rw [Try.params5] at hA hval
  obtain ⟨v0, vs0, d0, ds0, p0, q0, hargs, rfl, rfl, h0, r0⟩ := trodAll_cons hA
  obtain ⟨v1, vs1, d1, ds1, p1, q1, rfl, rfl, rfl, h1, r1⟩ := trodAll_cons r0
  obtain ⟨v2, vs2, d2, ds2, p2, q2, rfl, rfl, rfl, h2, r2⟩ := trodAll_cons r1
  obtain ⟨v3, vs3, d3, ds3, p3, q3, rfl, rfl, rfl, h3, r3⟩ := trodAll_cons r2
  obtain ⟨v4, vs4, d4, ds4, p4, q4, rfl, rfl, rfl, h4, r4⟩ := trodAll_cons r3
  obtain ⟨rfl, rfl, rfl⟩ := trodAll_nil r4
  obtain rfl : args = #[v0, v1, v2, v3, v4] := by cases args; simp_all
  obtain ⟨rfl, rfl⟩ := trodVars_none hV
  clear hA0
  simp only [List.append_nil] at hW'
  have k0 := h0
  obtain ⟨A0, n0, c0, x0, rfl, row0, le0, wf0⟩ := open_ints_sized (hval 0 22 v0 rfl rfl) h0 hz (j := 0) rfl rfl
  obtain ⟨x1, rfl, rfl, rfl, wf1⟩ := open_int Try.underlying3 (hval 1 3 v1 rfl rfl) h1
  obtain ⟨x2, rfl, rfl, rfl, wf2⟩ := open_int Try.underlying3 (hval 2 3 v2 rfl rfl) h2
  obtain ⟨x3, rfl, rfl, rfl, wf3⟩ := open_int Try.underlying3 (hval 3 3 v3 rfl rfl) h3
  obtain ⟨x4, rfl, rfl, rfl, wf4⟩ := open_int Try.underlying3 (hval 4 3 v4 rfl rfl) h4
  have hfin : Calls Try.prog 5 #[.slice A0 n0 c0, .int .i64 x1, .int .i64 x2, .int .i64 x3, .int .i64 x4] W fun e W' => e = .returned (.bool true) ∧ Ext W W' := by
    exact fnDeletesCommute_ok A0 n0 c0 x0 x1 x2 x3 x4 W row0 le0
  refine hfin.mono fun e W' ⟨he, hext⟩ => ?_
  subst he
  have bel : Below W.heap.size W W' := hext
  exact ⟨_, rfl, _, _, _, [], _, [], hW', trodAll_mk1 (shut_bool Try.underlying4 _), (trodAll_cons_mk (Below.trod laid_out (by kernel_rfl) (of_decide_eq_true (by kernel_rfl)) k0 bel (trod_lt k0)) (trodAll_cons_mk (shut_int Try.underlying3 wf1) (trodAll_cons_mk (shut_int Try.underlying3 wf2) (trodAll_cons_mk (shut_int Try.underlying3 wf3) (trodAll_cons_mk (shut_int Try.underlying3 wf4) trodAll_mk0))))), rfl, bel.frame _, fun h => by cases h⟩

set_option maxRecDepth 100000 in
theorem lifted (os : Os) (started : os.Started) (H : Type) (enc : TypeId × Value → H) :
    ReturnsInHanded {} Try.checked os 5 .any (Rows.fnDeletesCommuteSpec.pre6 enc Try.prog Try.f5 Rows.fnDeletesCommuteRow.domain false) (Rows.fnDeletesCommuteSpec.post enc Try.prog Try.f5 false true false false) := by
  refine returnsInHanded_of_change_sized (C := Try.checked) own_knob started (by kernel_rfl) Try.func5
    (ChangeSpec.witness6 (enc := enc) (C := Try.checked) false ⟨#[], #[.slice none 0 0, .int .i64 0, .int .i64 0, .int .i64 0, .int .i64 0], []⟩ 8 (by kernel_rfl) (by kernel_rfl) (by kernel_rfl) (by kernel_rfl)) ?_
  intro W base args ds gs before hval hW _ hz _
  exact contract H enc W base args ds gs before hval hW hz

theorem proved : Rows.FnDeletesCommuteSaid :=
  OpenClaim.holds_of_wide 5 Try.f5 rfl rfl rfl rfl rfl rfl rfl ⟨rfl, rfl, rfl, rfl, rfl⟩ rfl rfl rfl rfl rfl (by kernel_rfl) Try.func5 (by kernel_rfl)
    (of_decide_eq_true (by kernel_rfl)) (by unfold Func.isWrapper; first | (rw [if_pos (by decide +kernel)]; kernel_rfl) | (rw [if_neg (by decide +kernel)]; exact ⟨rfl, rfl⟩))
    (fun os started H enc _ => lifted os started H enc)
end Go.Proofs.Ytaimljagflnfpaa.fnDeletesCommuteSaid
