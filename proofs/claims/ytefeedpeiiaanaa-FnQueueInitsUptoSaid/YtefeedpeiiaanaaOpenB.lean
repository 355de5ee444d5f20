/- How an argument that is a slice of bools is opened. No statement of the seat is proved here. -/
import Derived.Test.YtefeedpeiiaanaaOpen
import Derived.Deep.Grids
namespace Go.Proofs.Ytefeedpeiiaanaa
open Go.ChangeShapes Go.WideShapes Go.ChangeAt Go.RowKit

def bls (xs : List Bool) : List Value := xs.map Value.bool
theorem bls_length (xs : List Bool) : (bls xs).length = xs.length := by simp [bls]
theorem cells_bool : Try.prog.cellsOf 4 = 1 := by kernel_rfl
theorem Row.bool_at {w : World} {A : Option Addr} {n c : Nat} {xs : List Bool} (h : Row w 1 A n c (bls xs)) {k : Nat} (hk : k < n) :
    ∃ b o x, A = some ⟨b, o, none⟩ ∧ Hid (xs[k]? = some x) ∧ w.cell? ⟨b, o + k, none⟩ = some (.bool x) := by
  have hl : xs.length = n := by have := h.1; rw [bls_length] at this; omega
  obtain ⟨b, o, e, hc⟩ := h.2.2.2 (by omega)
  have hx : xs[k]? = some xs[k] := List.getElem?_eq_getElem (by omega)
  refine ⟨b, o, xs[k], e, hx, hc k _ ?_⟩
  simp [bls, hx]
theorem Row.bls_len {w : World} {A : Option Addr} {n c : Nat} {xs : List Bool} (h : Row w 1 A n c (bls xs)) : xs.length = n := by have := h.1; rw [bls_length] at this; omega

section
variable {H : Type} {enc : TypeId × Value → H} {W : World}
theorem open_bools_arg {base : Nat} {v : Value} {d : DataW H} {p : List MemPlace} (hv : Value.okWide Try.prog W .any base 39 v) (h : DataW.Trod enc Try.prog W 0 (fun _ => true) true 39 v d p) :
    ∃ A n c xs, v = .slice A n c ∧ Row W 1 A n c (bls xs) ∧ True := by
  obtain ⟨a0, len0, cap0, rfl⟩ := okWide_slice Try.underlying39 hv
  obtain ⟨fuel, hf⟩ := h
  rcases Go.Deep.open_bools Try.underlying39 Try.underlying4 cells_bool hf with ⟨hcs, hx⟩ | ⟨x, l, c, B, hcs, _, hl, hm, hx, hcell⟩
  · simp [Value.cells] at hcs
    obtain ⟨rfl, rfl, rfl⟩ := hcs
    exact ⟨none, 0, 0, [], rfl, Row.nil W 1, trivial⟩
  · simp [Value.cells] at hcs
    obtain ⟨rfl, rfl, rfl⟩ := hcs
    refine ⟨_, len0, cap0, (List.range len0).map B, rfl, ⟨by simp [bls], hl, hm, fun hn => ?_⟩, trivial⟩
    have h0 : W.cell? (x.add 0) = some (.bool (B 0)) := hcell 0 (by omega)
    obtain ⟨b, o, sp⟩ := x
    have hsp : sp = none := by
      cases sp with
      | none => rfl
      | some q =>
        have : (⟨b, o, some q⟩ : Addr).add 0 = ⟨b, o, some q⟩ := rfl
        rw [this] at h0
        simp only [World.cell?, Option.isSome_some, if_true] at h0
        split at h0 <;> cases h0
    subst hsp
    refine ⟨b, o, rfl, fun j u hu => ?_⟩
    have hjl : j < len0 := by
      rcases Nat.lt_or_ge j len0 with h | h
      · exact h
      · rw [List.getElem?_eq_none (by simp [bls]; omega)] at hu; cases hu
    have hc := hcell j (by omega)
    have hadd : (⟨b, o, none⟩ : Addr).add j = ⟨b, o + j, none⟩ := by unfold Addr.add; split <;> simp_all
    rw [hadd] at hc
    rw [hc]
    simp [bls, hjl] at hu
    rw [← hu]
end
end Go.Proofs.Ytefeedpeiiaanaa
