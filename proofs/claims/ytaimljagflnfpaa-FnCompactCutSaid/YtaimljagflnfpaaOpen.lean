/- How the arguments of this seat's laws are opened: a slice of integers reads as a row, and the bound on what comes in bounds its length. No statement of the seat is proved here. -/
import Derived.Test.YtaimljagflnfpaaRows
import Derived.Test.YtaimljagflnfpaaWords
import Derived.ProofKit
import Derived.OpenShut
import Derived.JoinedCond
namespace Go.Proofs.Ytaimljagflnfpaa
open Go.ChangeShapes Go.WideShapes Go.ChangeAt Go.RowKit
open Go.ChangeMaps (open_string shut_string)

theorem bulk_pos {H : Type} (d : DataW H) : 1 ≤ Rows.uptoBulk d := by
  cases d with
  | lit l => cases l <;> simp [Rows.uptoBulk]
  | _ => simp [Rows.uptoBulk]
theorem bulk_len {H : Type} (l : List (DataW H)) : l.length ≤ Rows.uptoBulkAll l := by
  induction l with
  | nil => simp [Rows.uptoBulkAll]
  | cons x r ih => have := bulk_pos x; simp only [Rows.uptoBulkAll, List.length_cons]; omega
theorem bulk_bound {H : Type} {l : List (DataW H)} (hk : Rows.uptoSmall H l = true) : Rows.uptoBulkAll l ≤ 1048576 := of_decide_eq_true hk

theorem own_knob : ownKnob Try.prog.godebug = none := by kernel_rfl
theorem laid_out : laidOutB Try.prog = true := by kernel_rfl
theorem cells_int : Try.prog.cellsOf 3 = 1 := by kernel_rfl

section
variable {H : Type} {enc : TypeId × Value → H} {W : World}
theorem open_ints_arg {base : Nat} {v : Value} {d : DataW H} {p : List MemPlace} (hv : Value.okWide Try.prog W .any base 22 v) (h : DataW.Trod enc Try.prog W 0 (fun _ => true) true 22 v d p) :
    ∃ A n c xs, v = .slice A n c ∧ Row W 1 A n c (ints xs) ∧ n ≤ Rows.uptoBulk d ∧ ∀ x ∈ xs, (Lit.int .i64 x).wf = true := by
  obtain ⟨a0, len0, cap0, rfl⟩ := okWide_slice Try.underlying22 hv
  obtain ⟨fuel, hf⟩ := h
  rcases open_ints Try.underlying22 Try.underlying3 cells_int hf with ⟨hcs, hx⟩ | ⟨x, l, c, zs, hcs, _, hl, hm, hz, hx, hcell, hwz⟩
  · simp [Value.cells] at hcs
    obtain ⟨rfl, rfl, rfl⟩ := hcs
    exact ⟨none, 0, 0, [], rfl, Row.nil W 1, Nat.zero_le _, by simp⟩
  · simp [Value.cells] at hcs
    obtain ⟨rfl, rfl, rfl⟩ := hcs
    have hzl : zs.length = cap0 := by simpa using hz
    refine ⟨_, len0, cap0, zs.take len0, rfl, ⟨?_, hl, hm, fun hn => ?_⟩, ?_, fun y hy => hwz y (List.mem_of_mem_take hy)⟩
    · rw [ints_length, List.length_take]; omega
    · have h0 : W.cell? (x.add 0) = some (.int .i64 (zs.getD 0 0)) := hcell 0 (by omega)
      obtain ⟨b, o, sp⟩ := x
      have hsp : sp = none := by
        cases sp with
        | none => rfl
        | some q =>
          have : (⟨b, o, some q⟩ : Addr).add 0 = ⟨b, o, some q⟩ := rfl
          rw [this] at h0
          simp only [World.cell?, Option.isSome_some, if_true] at h0
          split at h0 <;> cases h0
      subst hsp
      refine ⟨b, o, rfl, fun j u hu => ?_⟩
      rw [ints_get] at hu
      have hjl : j < (zs.take len0).length := by
        rcases Nat.lt_or_ge j (zs.take len0).length with h | h
        · exact h
        · rw [List.getElem?_eq_none h] at hu; cases hu
      rw [List.length_take] at hjl
      rw [List.getElem?_take_of_lt (by omega), List.getElem?_eq_getElem (by omega)] at hu
      simp only [Option.map_some, Option.some.injEq] at hu
      have hc := hcell j (by omega)
      have hadd : (⟨b, o, none⟩ : Addr).add j = ⟨b, o + j, none⟩ := by unfold Addr.add; split <;> simp_all
      rw [hadd, List.getD_eq_getElem?_getD, List.getElem?_eq_getElem (by omega)] at hc
      rw [hc, ← hu]
      rfl
    · simp only [Prod.mk.injEq] at hx
      rw [hx.1]
      simp only [Rows.uptoBulk]
      have h1 := bulk_len (lits (H := H) .i64 (zs.take len0))
      have h2 : (lits (H := H) .i64 (zs.take len0)).length = len0 := by simp [lits, List.length_take]; omega
      omega
theorem trod_lt {t : TypeId} {v : Value} {d : DataW H} {p : List MemPlace} (h : DataW.Trod enc Try.prog W 0 (fun _ => true) true t v d p) : ∀ x ∈ p, x.block < W.heap.size := by
  obtain ⟨m, hm⟩ := h
  exact DataW.trod_lt m _ _ _ hm
end
end Go.Proofs.Ytaimljagflnfpaa
