/- slices.Insert, Delete and Replace at int out of bounds: the run-time's panic, nothing changed. No statement of the seat is proved here. -/
import Derived.Test.YtaimljagflnfpaaReplaceInt
import Derived.RegionDies
namespace Go.Proofs.Ytaimljagflnfpaa
open Go.RowKit

/-- The world behind the run-time's bounds panic. -/
def bpW (x : Int) (w : World) : World := if 0 ≤ x ∧ x ≤ 31 then w.drew else w
/-- Its value. -/
def bpV (x y : Int) (code : BoundsCode) (w : World) : Value :=
  .agg #[.int .i64 (IntKind.i64.wrap x), .int .i64 y, .bool (if 0 ≤ x ∧ x ≤ 31 then (w.tape w.drawn (.extern "runtime.boundsError.signed" 2) % 2 == 1) else true), .int .u8 code.toNat]
theorem run_bp {P : Program} {α : Type} (x y : Int) (code : BoundsCode) (w : World) :
    (boundsPanic .i64 x y code : Sem α).run P w = .halt (.panic (.iface P.rt.boundsError (bpV x y code w))) (bpW x w) := by
  unfold bpW bpV
  by_cases h : 0 ≤ x ∧ x ≤ 31
  · rw [if_pos h, if_pos h]
    simp [boundsPanic, Question.cut, runtimePanic, goPanic, h.1, h.2, go_sem]
  · rw [if_neg h, if_neg h]
    simp [boundsPanic, runtimePanic, goPanic, h, go_sem]
theorem bpW_ext {a w : World} (h : Ext a w) (x : Int) : Ext a (bpW x w) := by
  unfold bpW
  split
  · exact h.drew
  · exact h

/-- A call that ends in a panic of the run-time's, everything as it was. -/
def Panicked (w : World) (e : Ending) (w' : World) : Prop := ∃ u pv, e = .panicked [{ v := .iface u pv, recovered := false }] ∧ Ext w w'

set_option maxRecDepth 100000 in
set_option maxHeartbeats 400000 in
theorem insert_out (w : World) (A : Option Addr) (n c : Nat) (i : Int) (vs : Value) (hi : i < 0 ∨ (n : Int) < i) :
    Calls Try.prog 28 #[.slice A n c, .int .i64 i, vs] w (Panicked w) := by
  have hbp := @run_bp Try.prog
  rcases hi with hi | hi
  · go_enter Try.func28, Try.ntmps28
    go_wp2
    exact ⟨rfl, _, _, rfl, bpW_ext (Ext.refl w) _⟩
  · have h0 : 0 ≤ i := by omega
    have h1 : ¬ i ≤ (n : Int) := by omega
    obtain ⟨k, rfl⟩ := Int.eq_ofNat_of_zero_le h0
    have h2 : ¬ k ≤ n := by omega
    go_enter Try.func28, Try.ntmps28
    go_wp2
    exact ⟨rfl, _, _, rfl, bpW_ext (Ext.refl w) _⟩

set_option maxRecDepth 100000 in
set_option maxHeartbeats 400000 in
theorem delete_out (w : World) (A : Option Addr) (n c : Nat) (i j : Int) (hnc : n ≤ c) (hi : ¬ (0 ≤ i ∧ i ≤ j ∧ j ≤ (n : Int))) :
    Calls Try.prog 29 #[.slice A n c, .int .i64 i, .int .i64 j] w (Panicked w) := by
  have hbp := @run_bp Try.prog
  by_cases h1 : j < 0
  · clear hi
    go_enter Try.func29, Try.ntmps29
    go_wp2
    all_goals exact ⟨rfl, _, _, rfl, bpW_ext (Ext.refl w) _⟩
  · obtain ⟨k, rfl⟩ := Int.eq_ofNat_of_zero_le (show 0 ≤ j by omega)
    by_cases h2 : k ≤ n
    · by_cases h3 : i < 0
      · clear hi
        go_enter Try.func29, Try.ntmps29
        go_wp2
        all_goals exact ⟨rfl, _, _, rfl, bpW_ext (Ext.refl w) _⟩
      · obtain ⟨m, rfl⟩ := Int.eq_ofNat_of_zero_le (show 0 ≤ i by omega)
        have h4 : ¬ m ≤ k := by omega
        clear hi
        go_enter Try.func29, Try.ntmps29
        go_wp2
        all_goals exact ⟨rfl, _, _, rfl, bpW_ext (Ext.refl w) _⟩
    · clear hi
      go_enter Try.func29, Try.ntmps29
      go_wp2
      all_goals exact ⟨rfl, _, _, rfl, bpW_ext (Ext.refl w) _⟩

set_option maxRecDepth 100000 in
set_option maxHeartbeats 400000 in
theorem replace_out (w : World) (A : Option Addr) (n c : Nat) (i j : Int) (B : Option Addr) (m d : Nat) (hi : ¬ (0 ≤ i ∧ i ≤ j ∧ j ≤ (n : Int))) :
    Calls Try.prog 30 #[.slice A n c, .int .i64 i, .int .i64 j, .slice B m d] w (Panicked w) := by
  have hbp := @run_bp Try.prog
  by_cases h1 : j < 0
  · clear hi
    go_enter Try.func30, Try.ntmps30
    go_wp2
    all_goals exact ⟨rfl, _, _, rfl, bpW_ext (Ext.refl w) _⟩
  · obtain ⟨k, rfl⟩ := Int.eq_ofNat_of_zero_le (show 0 ≤ j by omega)
    by_cases h2 : k ≤ c
    · by_cases h3 : i < 0
      · clear hi
        go_enter Try.func30, Try.ntmps30
        go_wp2
        all_goals exact ⟨rfl, _, _, rfl, bpW_ext (Ext.refl w) _⟩
      · obtain ⟨q, rfl⟩ := Int.eq_ofNat_of_zero_le (show 0 ≤ i by omega)
        by_cases h4 : q ≤ k
        · have h5 : n < k := by omega
          clear hi
          by_cases h6 : q = k
          · subst h6
            have HI := Lib.hid (insert_out w A n c q (.slice B m d) (.inr (by omega)))
            by_cases hcq : c = q
            · subst hcq
              go_enter Try.func30, Try.ntmps30
              go_wp2_with fail
              refine HI.out.mono ?_
              rintro e w1 ⟨u, pv, rfl, hx⟩
              have HX := Lib.hid hx
              clear hx
              go_wp2
              exact ⟨rfl, _, _, rfl, HX.out⟩
            · go_enter Try.func30, Try.ntmps30
              go_wp2_with fail
              refine HI.out.mono ?_
              rintro e w1 ⟨u, pv, rfl, hx⟩
              have HX := Lib.hid hx
              clear hx
              go_wp2
              exact ⟨rfl, _, _, rfl, HX.out⟩
          · have h7 : ((q : Int) == (k : Int)) = false := by simp; omega
            have h8 : ((k : Int) == (n : Int)) = false := by simp; omega
            have h9 : ¬ k ≤ n := by omega
            have h10 : q ≤ c := by omega
            have h11 : ¬ c = q := by omega
            go_enter Try.func30, Try.ntmps30
            go_wp2
            go_region_dies
            all_goals (try go_wp2)
            all_goals exact ⟨rfl, _, _, rfl, bpW_ext (Ext.refl w).drew _⟩
        · clear hi
          go_enter Try.func30, Try.ntmps30
          go_wp2
          all_goals exact ⟨rfl, _, _, rfl, bpW_ext (Ext.refl w) _⟩
    · clear hi
      go_enter Try.func30, Try.ntmps30
      go_wp2
      all_goals exact ⟨rfl, _, _, rfl, bpW_ext (Ext.refl w) _⟩
end Go.Proofs.Ytaimljagflnfpaa
