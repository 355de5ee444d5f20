/- How an argument that is a slice of slices of integers is opened, and what bounds its size. No statement of the seat is proved here. -/
import Derived.Test.YtaimljagflnfpaaOpen
import Derived.Test.YtaimljagflnfpaaPart
import Derived.Deep.Matrix
namespace Go.Proofs.Ytaimljagflnfpaa
open Go.ChangeShapes Go.WideShapes Go.ChangeAt Go.RowKit

theorem cells_ints : Try.prog.cellsOf 22 = 1 := by kernel_rfl
theorem bulk_row {H : Type} (A : Option Addr) (L : Nat) (zs : List Int) (h : A = none → L = 0) : (zs.take L).length + 1 ≤ Rows.uptoBulk (Go.Deep.intRow (H := H) .i64 A L zs) := by
  cases A with
  | none => rw [h rfl]; simp [Go.Deep.intRow, Rows.uptoBulk]
  | some a =>
    simp only [Go.Deep.intRow, Rows.uptoBulk]
    have h1 := bulk_len (lits (H := H) .i64 (zs.take L))
    have h2 : (lits (H := H) .i64 (zs.take L)).length = (zs.take L).length := by simp [lits]
    omega
theorem bulk_rows {H : Type} (A : Nat → Option Addr) (L : Nat → Nat) (Z : Nat → List Int) : ∀ (l : List Nat), (∀ r ∈ l, A r = none → L r = 0) →
    l.length + (l.map fun r => (Z r).take (L r)).flatten.length ≤ Rows.uptoBulkAll (l.map fun r => Go.Deep.intRow (H := H) .i64 (A r) (L r) (Z r))
  | [], _ => by simp
  | r :: t, h => by
    have h1 := bulk_row (H := H) (A r) (L r) (Z r) (h r (by simp))
    have h2 := bulk_rows (H := H) A L Z t (fun x hx => h x (by simp [hx]))
    simp only [List.map_cons, List.flatten_cons, List.length_append, List.length_cons, Rows.uptoBulkAll]
    omega
theorem spot_none {W : World} {a : Addr} {v : Value} (h : W.cell? (a.add 0) = some v) : ∃ b o, a = ⟨b, o, none⟩ := by
  obtain ⟨b, o, sp⟩ := a
  cases sp with
  | none => exact ⟨b, o, rfl⟩
  | some q =>
    have e : (⟨b, o, some q⟩ : Addr).add 0 = ⟨b, o, some q⟩ := rfl
    rw [e] at h
    simp only [World.cell?, Option.isSome_some, if_true] at h
    split at h <;> cases h

section
variable {H : Type} {enc : TypeId × Value → H} {W : World}
theorem open_lists_arg {base : Nat} {v : Value} {d : DataW H} {p : List MemPlace} (hv : Value.okWide Try.prog W .any base 32 v) (h : DataW.Trod enc Try.prog W 0 (fun _ => true) true 32 v d p) :
    ∃ A n c xss, v = .slice A n c ∧ Lists W A n c xss ∧ n + xss.flatten.length ≤ Rows.uptoBulk d ∧ ∀ xs ∈ xss, ∀ x ∈ xs, (Lit.int .i64 x).wf = true := by
  obtain ⟨a0, len0, cap0, rfl⟩ := okWide_slice Try.underlying32 hv
  obtain ⟨fuel, hf⟩ := h
  rcases Go.Deep.open_int_rows Try.underlying32 Try.underlying22 Try.underlying3 cells_ints cells_int hf with ⟨hcs, hx⟩ | ⟨x, l, c, A, L, C, Z, hcs, _, hl, hm, hx, hrow⟩
  · simp [Value.cells] at hcs
    obtain ⟨rfl, rfl, rfl⟩ := hcs
    exact ⟨none, 0, 0, [], rfl, ⟨[], Row.nil W 1, rfl, fun i xs hx => by simp at hx⟩, Nat.zero_le _, by simp⟩
  · simp [Value.cells] at hcs
    obtain ⟨rfl, rfl, rfl⟩ := hcs
    have hrl : ∀ r, r < len0 → r < cap0 := fun r hr => by omega
    refine ⟨_, len0, cap0, (List.range len0).map fun r => (Z r).take (L r), rfl, ⟨(List.range len0).map fun r => .slice (A r) (L r) (C r), ?_, by simp, fun i xs hxs => ?_⟩, ?_, ?_⟩
    · refine ⟨by simp, hl, hm, fun hn => ?_⟩
      obtain ⟨b, o, rfl⟩ := spot_none (hrow 0 (by omega)).1
      refine ⟨b, o, rfl, fun j u hu => ?_⟩
      have hj : j < len0 := by
        rcases Nat.lt_or_ge j len0 with h | h
        · exact h
        · rw [List.getElem?_eq_none (by simp; omega)] at hu; cases hu
      have hc := (hrow j (by omega)).1
      rw [add_zero_off] at hc
      rw [hc]
      simp [hj] at hu
      rw [hu]
    · have hi : i < len0 := by
        rcases Nat.lt_or_ge i len0 with h | h
        · exact h
        · rw [List.getElem?_eq_none (by simp; omega)] at hxs; cases hxs
      simp [hi] at hxs
      subst hxs
      obtain ⟨_, hLC, hCm, hZl, _, hnone, hcells⟩ := hrow i (by omega)
      refine ⟨A i, L i, C i, by simp [hi], ⟨by rw [ints_length, List.length_take]; omega, hLC, hCm, fun hn => ?_⟩⟩
      cases hA : A i with
      | none => have := hnone hA; omega
      | some a' =>
        obtain ⟨_, hcell⟩ := hcells a' hA
        obtain ⟨b, o, rfl⟩ := spot_none (hcell 0 (by omega))
        refine ⟨b, o, rfl, fun j u hu => ?_⟩
        rw [ints_get] at hu
        have hj : j < L i := by
          rcases Nat.lt_or_ge j ((Z i).take (L i)).length with h | h
          · rw [List.length_take] at h; omega
          · rw [List.getElem?_eq_none h] at hu; cases hu
        have hc := hcell j (by omega)
        rw [add_zero_off, List.getD_eq_getElem?_getD, List.getElem?_eq_getElem (by omega)] at hc
        rw [List.getElem?_take_of_lt hj, List.getElem?_eq_getElem (by omega)] at hu
        simp only [Option.map_some, Option.some.injEq] at hu
        rw [hc, ← hu]
        rfl
    · simp only [Prod.mk.injEq] at hx
      rw [hx.1]
      simp only [Rows.uptoBulk]
      have h1 := bulk_rows (H := H) A L Z (List.range len0) (fun r hr hA => by
        have hr' := List.mem_range.1 hr
        obtain ⟨_, hLC, _, _, _, hnone, _⟩ := hrow r (by omega)
        have := hnone hA
        omega)
      rw [List.length_range] at h1
      omega
    · intro xs hxs y hy
      obtain ⟨r, hr, rfl⟩ := List.mem_map.1 hxs
      have hr' := List.mem_range.1 hr
      exact (hrow r (by omega)).2.2.2.2.1 y (List.mem_of_mem_take hy)
end
end Go.Proofs.Ytaimljagflnfpaa
