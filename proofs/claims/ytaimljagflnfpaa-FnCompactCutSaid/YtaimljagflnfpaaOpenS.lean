/- How a slice of integers is opened where the form's own reach bounds its length. No statement of the seat is proved here. -/
import Derived.Test.YtaimljagflnfpaaOpen
import Derived.SizedLaws
namespace Go.Proofs.Ytaimljagflnfpaa
open Go.ChangeShapes Go.WideShapes Go.ChangeAt Go.RowKit

theorem bytes_int : Try.prog.bytesOf 3 = 8 := by kernel_rfl
section
variable {H : Type} {enc : TypeId × Value → H} {W : World}
theorem open_ints_sized {base : Nat} {v : Value} {d : DataW H} {p : List MemPlace} (hv : Value.okWide Try.prog W .any base 22 v) (h : DataW.Trod enc Try.prog W 0 (fun _ => true) true 22 v d p)
    {ts : List TypeId} {ds : List (DataW H)} (hz : (DataW.weightsEach Try.prog ts ds).all (· ≤ reachBytes) = true) {j : Nat} (ht : ts[j]? = some 22) (hd : ds[j]? = some d) :
    ∃ A n c xs, v = .slice A n c ∧ Row W 1 A n c (ints xs) ∧ n ≤ 17592186043904 ∧ ∀ x ∈ xs, (Lit.int .i64 x).wf = true := by
  obtain ⟨A, n, c, xs, rfl, hr, -, hw⟩ := open_ints_arg hv h
  refine ⟨A, n, c, xs, rfl, hr, ?_, hw⟩
  obtain ⟨fuel, hf⟩ := h
  rcases open_ints Try.underlying22 Try.underlying3 cells_int hf with ⟨hcs, hx⟩ | ⟨x, l, c', zs, hcs, _, hl, hm, hzl, hx, hcell, hwz⟩
  · simp [Value.cells] at hcs
    omega
  · simp [Value.cells] at hcs
    obtain ⟨rfl, rfl, rfl⟩ := hcs
    simp only [Prod.mk.injEq] at hx
    rw [hx.1] at hd
    have h8 := sized_slice hz ht hd Try.underlying22
    rw [bytes_int, show reachBytes = 140737488351232 by decide] at h8
    have h9 : zs.length = c := by simpa using hzl
    simp only [lits, List.length_map, List.length_take, List.length_drop] at h8
    omega
end
end Go.Proofs.Ytaimljagflnfpaa
