/- Scripts of one and of two edits, laid by a literal. No statement of the seat is proved here. -/
import Derived.Test.YtaimljagflnfpaaSameLast
namespace Go.Proofs.Ytaimljagflnfpaa
open Go.RowKit

theorem edts_two (w : World) (B : Nat) (hB : w.heap.size = B) (p1 i1 j1 p2 i2 j2 : Int) (vs1 vs2 : List Int) (B1 B2 : Option Addr) (n1 n2 q1 q2 : Nat) (h1 : Row w 1 B1 n1 q1 (ints vs1)) (h2 : Row w 1 B2 n2 q2 (ints vs2)) :
    Edts (w.alloc (.cells #[.int .i64 p1, .int .i64 i1, .int .i64 j1, .slice B1 n1 q1, .int .i64 p2, .int .i64 i2, .int .i64 j2, .slice B2 n2 q2] 29)) (some ⟨B, 0, none⟩) 2 2 [(p1, i1, j1, vs1), (p2, i2, j2, vs2)] := by
  obtain rfl := h1.ints_len
  obtain rfl := h2.ints_len
  refine ⟨[.slice B1 vs1.length q1, .slice B2 vs2.length q2], rfl, Row.fresh' w _ 4 #[_, _, _, _, _, _, _, _] 2 B hB rfl (by unfold maxLen; omega), fun i d hd => ?_⟩
  rcases i with _ | _ | i
  · simp at hd; subst hd; exact ⟨B1, q1, rfl, h1.alloc _⟩
  · simp at hd; subst hd; exact ⟨B2, q2, rfl, h2.alloc _⟩
  · simp at hd
theorem edts_one (w : World) (B : Nat) (hB : w.heap.size = B) (p1 i1 j1 : Int) (vs1 : List Int) (B1 : Option Addr) (n1 q1 : Nat) (h1 : Row w 1 B1 n1 q1 (ints vs1)) :
    Edts (w.alloc (.cells #[.int .i64 p1, .int .i64 i1, .int .i64 j1, .slice B1 n1 q1] 29)) (some ⟨B, 0, none⟩) 1 1 [(p1, i1, j1, vs1)] := by
  obtain rfl := h1.ints_len
  refine ⟨[.slice B1 vs1.length q1], rfl, Row.fresh' w _ 4 #[_, _, _, _] 1 B hB rfl (by unfold maxLen; omega), fun i d hd => ?_⟩
  rcases i with _ | i
  · simp at hd; subst hd; exact ⟨B1, q1, rfl, h1.alloc _⟩
  · simp at hd
/-- laws.last on a script of two edits that a literal lays. -/
theorem last_two (A : Option Addr) (n c : Nat) (xs : List Int) (w : World) (B : Nat) (hB : w.heap.size = B) (p1 i1 j1 p2 i2 j2 : Int) (vs1 vs2 : List Int) (B1 B2 : Option Addr) (n1 n2 q1 q2 : Nat) (hx : Row w 1 A n c (ints xs)) (h1 : Row w 1 B1 n1 q1 (ints vs1)) (h2 : Row w 1 B2 n2 q2 (ints vs2)) (hn : n + n1 + n2 ≤ 17592186043904)
    (Z : List Int) (N : Nat) (hZ : eend xs [(p1, i1, j1, vs1), (p2, i2, j2, vs2)] = Z) (hN : Z.length = N) :
    Calls Try.prog 18 #[.slice A n c, .slice (some ⟨B, 0, none⟩) 2 2] (w.alloc (.cells #[.int .i64 p1, .int .i64 i1, .int .i64 j1, .slice B1 n1 q1, .int .i64 p2, .int .i64 i2, .int .i64 j2, .slice B2 n2 q2] 29)) fun e w' => ∃ C q, e = .returned (.tuple #[.slice C N q, .bool true]) ∧ Row w' 1 C N q (ints Z) ∧ Ext w w' := by
  subst hZ hN
  refine (last_ok A (some ⟨B, 0, none⟩) n 2 c 2 xs _ _ (hx.alloc _) (edts_two w B hB p1 i1 j1 p2 i2 j2 vs1 vs2 B1 B2 n1 n2 q1 q2 h1 h2) (by simp only [evals]; rw [h1.ints_len, h2.ints_len]; omega) (by omega)).mono fun e w' ⟨C, q, h3, h4, h5⟩ => ⟨C, q, h3, h4, ((Ext.refl w).alloc _).trans h5⟩
theorem last_one (A : Option Addr) (n c : Nat) (xs : List Int) (w : World) (B : Nat) (hB : w.heap.size = B) (p1 i1 j1 : Int) (vs1 : List Int) (B1 : Option Addr) (n1 q1 : Nat) (hx : Row w 1 A n c (ints xs)) (h1 : Row w 1 B1 n1 q1 (ints vs1)) (hn : n + n1 ≤ 17592186043904)
    (Z : List Int) (N : Nat) (hZ : eend xs [(p1, i1, j1, vs1)] = Z) (hN : Z.length = N) :
    Calls Try.prog 18 #[.slice A n c, .slice (some ⟨B, 0, none⟩) 1 1] (w.alloc (.cells #[.int .i64 p1, .int .i64 i1, .int .i64 j1, .slice B1 n1 q1] 29)) fun e w' => ∃ C q, e = .returned (.tuple #[.slice C N q, .bool true]) ∧ Row w' 1 C N q (ints Z) ∧ Ext w w' := by
  subst hZ hN
  refine (last_ok A (some ⟨B, 0, none⟩) n 1 c 1 xs _ _ (hx.alloc _) (edts_one w B hB p1 i1 j1 vs1 B1 n1 q1 h1) (by simp only [evals]; rw [h1.ints_len]; omega) (by omega)).mono fun e w' ⟨C, q, h3, h4, h5⟩ => ⟨C, q, h3, h4, ((Ext.refl w).alloc _).trans h5⟩
end Go.Proofs.Ytaimljagflnfpaa
