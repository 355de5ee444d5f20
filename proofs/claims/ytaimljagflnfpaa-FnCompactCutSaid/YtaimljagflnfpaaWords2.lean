/- More words for memory: parts of a slice. No statement of the seat is proved here. -/
import Derived.Test.YtaimljagflnfpaaLaws
namespace Go.Proofs.Ytaimljagflnfpaa
open Go.RowKit

section
variable {w : World} {sz n c : Nat} {A : Option Addr} {cs : List Value}
theorem Row.head (h : Row w sz A n c cs) {k : Nat} (hk : k ≤ n) : Row w sz A k c (cs.take (k * sz)) := by
  have hm : k * sz ≤ n * sz := Nat.mul_le_mul_right _ hk
  refine ⟨by rw [List.length_take, h.1]; omega, Nat.le_trans hk h.2.1, h.2.2.1, fun h0 => ?_⟩
  obtain ⟨b, o, e, hc⟩ := h.2.2.2 (by omega)
  refine ⟨b, o, e, fun j u hu => ?_⟩
  rw [List.getElem?_take] at hu
  split at hu
  · exact hc j u hu
  · cases hu
/-- What is cut off from the left; at the capacity the address stays. -/
theorem Row.tail (h : Row w sz A n c cs) {k : Nat} (hk : k ≤ n) : Row w sz (if c = k then A else A.map (·.add (k * sz))) (n - k) (c - k) (cs.drop (k * sz)) := by
  refine ⟨by rw [List.length_drop, h.1, Nat.sub_mul], by have := h.2.1; omega, by have := h.2.2.1; omega, fun h0 => ?_⟩
  obtain ⟨b, o, e, hc⟩ := h.2.2.2 (by omega)
  subst e
  rw [if_neg (by have := h.2.1; omega)]
  refine ⟨b, o + k * sz, ?_, fun j u hu => ?_⟩
  · simp only [Option.map_some, Option.some.injEq]
    unfold Addr.add
    split <;> simp_all
  · rw [List.getElem?_drop] at hu
    have := hc _ u hu
    rw [← Nat.add_assoc] at this
    exact this
end

end Go.Proofs.Ytaimljagflnfpaa
