/- Words for slices of steps. No statement of the seat is proved here. -/
import Derived.Test.YtefeedpeiiaanaaDones
import Derived.Test.YtefeedpeiiaanaaSortPlain
namespace Go.Proofs.Ytefeedpeiiaanaa
open Go.RowKit

theorem elStep : El Try.prog 26 30 4 32 := El.mk' (z := .agg #[.int .i64 0, .int .i64 0, .int .i64 0, .int .i64 0]) Try.underlying26 (by kernel_rfl) rfl (by decide)
/-- A step: its kind, its item, its key. -/
abbrev Stp := Int × (Int × Int) × Int
def stpV (s : Stp) : Value := .agg #[.int .i64 s.1, .int .i64 s.2.1.1, .int .i64 s.2.1.2, .int .i64 s.2.2]
def stc (s : Stp) : List Value := [.int .i64 s.1, .int .i64 s.2.1.1, .int .i64 s.2.1.2, .int .i64 s.2.2]
def sts (T : List Stp) : List Value := T.flatMap stc
theorem sts_cons (s : Stp) (T : List Stp) : sts (s :: T) = .int .i64 s.1 :: .int .i64 s.2.1.1 :: .int .i64 s.2.1.2 :: .int .i64 s.2.2 :: sts T := rfl
theorem sts_append (T U : List Stp) : sts (T ++ U) = sts T ++ sts U := by simp [sts]
theorem sts_length (T : List Stp) : (sts T).length = T.length * 4 := by
  induction T with
  | nil => rfl
  | cons s T ih => rw [sts_cons]; simp only [List.length_cons, ih]; omega
theorem sts_one (T : List Stp) : ∀ u ∈ sts T, u.oneCell' = true := by
  intro u hu
  obtain ⟨x, _, hx⟩ := List.mem_flatMap.1 hu
  simp [stc] at hx
  rcases hx with rfl | rfl | rfl | rfl <;> rfl
theorem sts_get (T : List Stp) (i : Nat) (s : Stp) (hs : T[i]? = some s) :
    (sts T)[i * 4]? = some (.int .i64 s.1) ∧ (sts T)[i * 4 + 1]? = some (.int .i64 s.2.1.1) ∧ (sts T)[i * 4 + 2]? = some (.int .i64 s.2.1.2) ∧ (sts T)[i * 4 + 3]? = some (.int .i64 s.2.2) := by
  induction i generalizing T with
  | zero =>
    cases T with
    | nil => simp at hs
    | cons e T => simp at hs; subst hs; simp [sts_cons]
  | succ i ih =>
    cases T with
    | nil => simp at hs
    | cons e T =>
      have := ih T (by simpa using hs)
      have e4 : (i + 1) * 4 = i * 4 + 1 + 1 + 1 + 1 := by omega
      rw [e4, sts_cons]
      have f : ∀ j, (Value.int .i64 e.1 :: Value.int .i64 e.2.1.1 :: Value.int .i64 e.2.1.2 :: Value.int .i64 e.2.2 :: sts T)[j + 1 + 1 + 1 + 1]? = (sts T)[j]? := fun j => by simp
      refine ⟨by rw [f]; exact this.1, ?_, ?_, ?_⟩
      · rw [show i * 4 + 1 + 1 + 1 + 1 + 1 = (i * 4 + 1) + 1 + 1 + 1 + 1 by omega, f]; exact this.2.1
      · rw [show i * 4 + 1 + 1 + 1 + 1 + 2 = (i * 4 + 2) + 1 + 1 + 1 + 1 by omega, f]; exact this.2.2.1
      · rw [show i * 4 + 1 + 1 + 1 + 1 + 3 = (i * 4 + 3) + 1 + 1 + 1 + 1 by omega, f]; exact this.2.2.2
theorem Row.sts_len {w : World} {A : Option Addr} {n c : Nat} {T : List Stp} (h : Row w 4 A n c (sts T)) : T.length = n := by have := h.1; rw [sts_length] at this; omega
theorem Row.step_at {w : World} {A : Option Addr} {n c : Nat} {T : List Stp} (h : Row w 4 A n c (sts T)) {k : Nat} (hk : k < n) :
    ∃ b o s1 s2 s3 s4, A = some ⟨b, o, none⟩ ∧ Hid (T[k]? = some (s1, (s2, s3), s4)) ∧ w.cell? ⟨b, o + k * 4, none⟩ = some (.int .i64 s1) ∧ w.cell? ⟨b, o + k * 4 + 1, none⟩ = some (.int .i64 s2) ∧ w.cell? ⟨b, o + k * 4 + 2, none⟩ = some (.int .i64 s3) ∧ w.cell? ⟨b, o + k * 4 + 3, none⟩ = some (.int .i64 s4) := by
  have hl := h.sts_len
  obtain ⟨b, o, e, hc⟩ := h.2.2.2 (by omega)
  have hd : T[k]? = some T[k] := List.getElem?_eq_getElem (by omega)
  obtain ⟨g0, g1, g2, g3⟩ := sts_get T k _ hd
  exact ⟨b, o, T[k].1, T[k].2.1.1, T[k].2.1.2, T[k].2.2, e, hd, hc _ _ g0, by rw [Nat.add_assoc]; exact hc _ _ g1, by rw [Nat.add_assoc]; exact hc _ _ g2, by rw [Nat.add_assoc]; exact hc _ _ g3⟩
end Go.Proofs.Ytefeedpeiiaanaa
