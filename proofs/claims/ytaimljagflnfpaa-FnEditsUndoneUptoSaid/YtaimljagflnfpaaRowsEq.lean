/- Rows of impl.Edits, told one by one. No statement of the seat is proved here. -/
import Derived.Test.YtaimljagflnfpaaScript
import Derived.Test.YtaimljagflnfpaaSameLast
namespace Go.Proofs.Ytaimljagflnfpaa
open Go.RowKit

/-- The first 1000 of a room. -/
theorem room_nat (room : Int) : ∃ R : Nat, (R : Int) = min (max room 0) 1000 := ⟨(min (max room 0) 1000).toNat, by omega⟩
theorem rows_at {D : List ERow} {xs : List Int} {E : List Edt} (h : D.map (fun d => (d.1, d.2.1)) = erows xs E) {k : Nat} {p s : Bool} {l : List Int} (hd : D[k]? = some (p, l, s)) : (erows xs E)[k]? = some (p, l) := by
  rw [← h, List.getElem?_map, hd]; rfl
theorem rows_len {D : List ERow} {xs : List Int} {E : List Edt} (h : D.map (fun d => (d.1, d.2.1)) = erows xs E) : D.length = E.length := by
  have := congrArg List.length h
  rw [List.length_map, erows_length] at this
  exact this
/-- A script as laws.script returns it. -/
theorem script_form {w : World} {base : Nat} {u : Value} {E : List Edt} (h : OwnEdts w base none u E) : ∃ C q, u = .slice C E.length q ∧ Edts w C E.length q E := OwnRecs.recs h
end Go.Proofs.Ytaimljagflnfpaa
