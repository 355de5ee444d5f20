/- 'laws.FnMergeKept' returns true at every input of bulk at most 1048576, and leaves its arguments as they were: the statement 'FnMergeKeptUptoSaid'. -/
import Derived.Test.YtefeedpeiiaanaaOpen
import Derived.Test.YtefeedpeiiaanaaFnMergeKept
namespace Go.Proofs.Ytefeedpeiiaanaa.fnMergeKept
open Go.ChangeShapes Go.WideShapes Go.ChangeAt Go.RowKit

theorem contract (H : Type) (enc : TypeId × Value → H) (W : World) (base : Nat) (args : Array Value) (ds gs : List (DataW H)) (before : List MemPlace)
    (hval : ∀ (j : Nat) t v, Try.f12.params[j]? = some t → args[j]? = some v → Value.okWide Try.prog W .any base t v)
    (hW : DataW.Whole enc Try.prog Try.f12.params.toList Rows.fnMergeKeptSpec.vars false W args.toList ds gs before) (hk : Rows.uptoSmall H (ds ++ gs) = true) :
    Calls Try.prog 12 args W fun e W' => ∃ v, e = .returned v ∧ Rows.fnMergeKeptSpec.post enc Try.prog Try.f12 false true false false W args v W' := by
  have hW' := hW
  obtain ⟨p, q, hA0, hV, rfl, hfz, hnd⟩ := hW
  have hA : DataW.TrodAll enc Try.prog W 0 (fun _ => true) true Try.f12.params.toList args.toList ds p := hA0
  rw [Try.params12] at hA hval
  obtain ⟨v0, vs0, d0, ds0, p0, q0, hargs, rfl, rfl, h0, r0⟩ := trodAll_cons hA
  obtain ⟨v1, vs1, d1, ds1, p1, q1, rfl, rfl, rfl, h1, r1⟩ := trodAll_cons r0
  obtain ⟨v2, vs2, d2, ds2, p2, q2, rfl, rfl, rfl, h2, r2⟩ := trodAll_cons r1
  obtain ⟨v3, vs3, d3, ds3, p3, q3, rfl, rfl, rfl, h3, r3⟩ := trodAll_cons r2
  obtain ⟨rfl, rfl, rfl⟩ := trodAll_nil r3
  obtain rfl : args = #[v0, v1, v2, v3] := by cases args; simp_all
  obtain ⟨rfl, rfl⟩ := trodVars_none hV
  clear hA0
  simp only [List.append_nil] at hW' hk
  have hb := bulk_bound hk
  simp only [Rows.uptoBulkAll] at hb
  have k0 := h0
  obtain ⟨A0, n0, c0, x0, rfl, row0, le0, wf0⟩ := open_ints_arg (hval 0 22 v0 rfl rfl) h0
  have k1 := h1
  obtain ⟨A1, n1, c1, x1, rfl, row1, le1, wf1⟩ := open_ints_arg (hval 1 22 v1 rfl rfl) h1
  have k2 := h2
  obtain ⟨A2, n2, c2, x2, rfl, row2, le2, wf2⟩ := open_ints_arg (hval 2 22 v2 rfl rfl) h2
  have k3 := h3
  obtain ⟨A3, n3, c3, x3, rfl, row3, le3, wf3⟩ := open_ints_arg (hval 3 22 v3 rfl rfl) h3
  have hfin : Calls Try.prog 12 #[.slice A0 n0 c0, .slice A1 n1 c1, .slice A2 n2 c2, .slice A3 n3 c3] W fun e W' => e = .returned (.bool true) ∧ Ext W W' := by
    exact fnMergeKept_ok A0 A1 A2 A3 n0 n1 n2 n3 c0 c1 c2 c3 x0 x1 x2 x3 W row0 row1 row2 row3 (by omega) (by omega)
  refine hfin.mono fun e W' ⟨he, hext⟩ => ?_
  subst he
  have bel : Below W.heap.size W W' := hext
  exact ⟨_, rfl, _, _, _, [], _, [], hW', trodAll_mk1 (shut_bool Try.underlying4 _), (trodAll_cons_mk (Below.trod laid_out (by kernel_rfl) (of_decide_eq_true (by kernel_rfl)) k0 bel (trod_lt k0)) (trodAll_cons_mk (Below.trod laid_out (by kernel_rfl) (of_decide_eq_true (by kernel_rfl)) k1 bel (trod_lt k1)) (trodAll_cons_mk (Below.trod laid_out (by kernel_rfl) (of_decide_eq_true (by kernel_rfl)) k2 bel (trod_lt k2)) (trodAll_cons_mk (Below.trod laid_out (by kernel_rfl) (of_decide_eq_true (by kernel_rfl)) k3 bel (trod_lt k3)) trodAll_mk0)))), rfl, bel.frame _, fun h => by cases h⟩

set_option maxRecDepth 100000 in
theorem lifted (os : Os) (started : os.Started) (H : Type) (enc : TypeId × Value → H) (F : Stop.Interp) :
    ReturnsInHanded {} Try.checked os 12 .any ((Rows.OpenSpec.upto Rows.fnMergeKeptSpec).pre6 enc Try.prog Try.f12 Rows.fnMergeKeptUptoRow.domain false) (((Rows.OpenSpec.upto Rows.fnMergeKeptSpec).at F).post enc Try.prog Try.f12 false true false false) := by
  refine returnsInHanded_of_cond (C := Try.checked) (s := Rows.OpenSpec.upto Rows.fnMergeKeptSpec) (k := Rows.uptoSmall) rfl own_knob started (by kernel_rfl) Try.func12
    (OpenSpec.witness (enc := enc) (C := Try.checked) (s := Rows.OpenSpec.upto Rows.fnMergeKeptSpec) (k := Rows.uptoSmall) rfl false ⟨#[], #[.slice none 0 0, .slice none 0 0, .slice none 0 0, .slice none 0 0], []⟩ 8 (by kernel_rfl) (by kernel_rfl) (by kernel_rfl)
      (x := ([.nil, .nil, .nil, .nil], [], [])) (by kernel_rfl) rfl (by kernel_rfl)) ?_
  intro W base args ds gs before hval hW _ hk _
  exact contract H enc W base args ds gs before hval hW hk

theorem proved : Rows.FnMergeKeptUptoSaid :=
  OpenClaim.holds_of_cond 12 Try.f12 rfl rfl rfl rfl rfl rfl rfl ⟨rfl, rfl, rfl, rfl, rfl⟩ rfl rfl rfl rfl rfl (by kernel_rfl) Try.func12 (by kernel_rfl)
    (of_decide_eq_true (by kernel_rfl)) (by unfold Func.isWrapper; first | (rw [if_pos (by decide +kernel)]; kernel_rfl) | (rw [if_neg (by decide +kernel)]; exact ⟨rfl, rfl⟩))
    (fun os started H enc _ F => lifted os started H enc F)
end Go.Proofs.Ytefeedpeiiaanaa.fnMergeKept
