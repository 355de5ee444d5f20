/- 'laws.FnReplacesCommute' returns true at every input of bulk at most 1048576, and leaves its arguments as they were: the statement 'FnReplacesCommuteUptoSaid'. -/
import Derived.Test.YtecjkonjgmjppaaOpen
import Derived.Test.YtecjkonjgmjppaaFnReplacesCommute
namespace Go.Proofs.Ytecjkonjgmjppaa.fnReplacesCommute
open Go.ChangeShapes Go.WideShapes Go.ChangeAt Go.RowKit

theorem contract (H : Type) (enc : TypeId × Value → H) (W : World) (base : Nat) (args : Array Value) (ds gs : List (DataW H)) (before : List MemPlace)
    (hval : ∀ (j : Nat) t v, Try.f4.params[j]? = some t → args[j]? = some v → Value.okWide Try.prog W .any base t v)
    (hW : DataW.Whole enc Try.prog Try.f4.params.toList Rows.fnReplacesCommuteSpec.vars false W args.toList ds gs before) (hk : Rows.uptoSmall H (ds ++ gs) = true) :
    Calls Try.prog 4 args W fun e W' => ∃ v, e = .returned v ∧ Rows.fnReplacesCommuteSpec.post enc Try.prog Try.f4 false true false false W args v W' := by
  have hW' := hW
  obtain ⟨p, q, hA0, hV, rfl, hfz, hnd⟩ := hW
  have hA : DataW.TrodAll enc Try.prog W 0 (fun _ => true) true Try.f4.params.toList args.toList ds p := hA0
  rw [Try.params4] at hA hval
  obtain ⟨v0, vs0, d0, ds0, p0, q0, hargs, rfl, rfl, h0, r0⟩ := trodAll_cons hA
  obtain ⟨v1, vs1, d1, ds1, p1, q1, rfl, rfl, rfl, h1, r1⟩ := trodAll_cons r0
  obtain ⟨v2, vs2, d2, ds2, p2, q2, rfl, rfl, rfl, h2, r2⟩ := trodAll_cons r1
  obtain ⟨v3, vs3, d3, ds3, p3, q3, rfl, rfl, rfl, h3, r3⟩ := trodAll_cons r2
  obtain ⟨v4, vs4, d4, ds4, p4, q4, rfl, rfl, rfl, h4, r4⟩ := trodAll_cons r3
  obtain ⟨v5, vs5, d5, ds5, p5, q5, rfl, rfl, rfl, h5, r5⟩ := trodAll_cons r4
  obtain ⟨v6, vs6, d6, ds6, p6, q6, rfl, rfl, rfl, h6, r6⟩ := trodAll_cons r5
  obtain ⟨rfl, rfl, rfl⟩ := trodAll_nil r6
  obtain rfl : args = #[v0, v1, v2, v3, v4, v5, v6] := by cases args; simp_all
  obtain ⟨rfl, rfl⟩ := trodVars_none hV
  clear hA0
  simp only [List.append_nil] at hW' hk
  have hb := bulk_bound hk
  simp only [Rows.uptoBulkAll] at hb
  have k0 := h0
  obtain ⟨A0, n0, c0, x0, rfl, row0, le0, wf0⟩ := open_ints_arg (hval 0 22 v0 rfl rfl) h0
  obtain ⟨x1, rfl, rfl, rfl, wf1⟩ := open_int Try.underlying3 (hval 1 3 v1 rfl rfl) h1
  obtain ⟨x2, rfl, rfl, rfl, wf2⟩ := open_int Try.underlying3 (hval 2 3 v2 rfl rfl) h2
  obtain ⟨x3, rfl, rfl, rfl, wf3⟩ := open_int Try.underlying3 (hval 3 3 v3 rfl rfl) h3
  obtain ⟨x4, rfl, rfl, rfl, wf4⟩ := open_int Try.underlying3 (hval 4 3 v4 rfl rfl) h4
  have k5 := h5
  obtain ⟨A5, n5, c5, x5, rfl, row5, le5, wf5⟩ := open_ints_arg (hval 5 22 v5 rfl rfl) h5
  have k6 := h6
  obtain ⟨A6, n6, c6, x6, rfl, row6, le6, wf6⟩ := open_ints_arg (hval 6 22 v6 rfl rfl) h6
  have hfin : Calls Try.prog 4 #[.slice A0 n0 c0, .int .i64 x1, .int .i64 x2, .int .i64 x3, .int .i64 x4, .slice A5 n5 c5, .slice A6 n6 c6] W fun e W' => e = .returned (.bool true) ∧ Ext W W' := by
    exact fnReplacesCommute_ok A0 A5 A6 n0 n5 n6 c0 c5 c6 x0 x5 x6 x1 x2 x3 x4 W row0 row5 row6 (by omega) (by omega) (by omega)
  refine hfin.mono fun e W' ⟨he, hext⟩ => ?_
  subst he
  have bel : Below W.heap.size W W' := hext
  exact ⟨_, rfl, _, _, _, [], _, [], hW', trodAll_mk1 (shut_bool Try.underlying4 _), (trodAll_cons_mk (Below.trod laid_out (by kernel_rfl) (of_decide_eq_true (by kernel_rfl)) k0 bel (trod_lt k0)) (trodAll_cons_mk (shut_int Try.underlying3 wf1) (trodAll_cons_mk (shut_int Try.underlying3 wf2) (trodAll_cons_mk (shut_int Try.underlying3 wf3) (trodAll_cons_mk (shut_int Try.underlying3 wf4) (trodAll_cons_mk (Below.trod laid_out (by kernel_rfl) (of_decide_eq_true (by kernel_rfl)) k5 bel (trod_lt k5)) (trodAll_cons_mk (Below.trod laid_out (by kernel_rfl) (of_decide_eq_true (by kernel_rfl)) k6 bel (trod_lt k6)) trodAll_mk0))))))), rfl, bel.frame _, fun h => by cases h⟩

set_option maxRecDepth 100000 in
theorem lifted (os : Os) (started : os.Started) (H : Type) (enc : TypeId × Value → H) (F : Stop.Interp) :
    ReturnsInHanded {} Try.checked os 4 .any ((Rows.OpenSpec.upto Rows.fnReplacesCommuteSpec).pre6 enc Try.prog Try.f4 Rows.fnReplacesCommuteUptoRow.domain false) (((Rows.OpenSpec.upto Rows.fnReplacesCommuteSpec).at F).post enc Try.prog Try.f4 false true false false) := by
  refine returnsInHanded_of_cond (C := Try.checked) (s := Rows.OpenSpec.upto Rows.fnReplacesCommuteSpec) (k := Rows.uptoSmall) rfl own_knob started (by kernel_rfl) Try.func4
    (OpenSpec.witness (enc := enc) (C := Try.checked) (s := Rows.OpenSpec.upto Rows.fnReplacesCommuteSpec) (k := Rows.uptoSmall) rfl false ⟨#[], #[.slice none 0 0, .int .i64 0, .int .i64 0, .int .i64 0, .int .i64 0, .slice none 0 0, .slice none 0 0], []⟩ 8 (by kernel_rfl) (by kernel_rfl) (by kernel_rfl)
      (x := ([.nil, .lit (.int .i64 0), .lit (.int .i64 0), .lit (.int .i64 0), .lit (.int .i64 0), .nil, .nil], [], [])) (by kernel_rfl) rfl (by kernel_rfl)) ?_
  intro W base args ds gs before hval hW _ hk _
  exact contract H enc W base args ds gs before hval hW hk

theorem proved : Rows.FnReplacesCommuteUptoSaid :=
  OpenClaim.holds_of_cond 4 Try.f4 rfl rfl rfl rfl rfl rfl rfl ⟨rfl, rfl, rfl, rfl, rfl⟩ rfl rfl rfl rfl rfl (by kernel_rfl) Try.func4 (by kernel_rfl)
    (of_decide_eq_true (by kernel_rfl)) (by unfold Func.isWrapper; first | (rw [if_pos (by decide +kernel)]; kernel_rfl) | (rw [if_neg (by decide +kernel)]; exact ⟨rfl, rfl⟩))
    (fun os started H enc _ F => lifted os started H enc F)
end Go.Proofs.Ytecjkonjgmjppaa.fnReplacesCommute
