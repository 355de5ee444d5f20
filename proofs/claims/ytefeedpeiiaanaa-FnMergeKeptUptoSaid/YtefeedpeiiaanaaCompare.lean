/- The contracts of cmp.Or at int and of impl.compareItems: by keys, then by tags. No statement of the seat is proved here. -/
import Derived.Test.YtefeedpeiiaanaaCmp
import Derived.Test.YtefeedpeiiaanaaSortPlain
import Derived.Deep.LoopGhost
import Derived.Deep.RegionHeld3
namespace Go.Proofs.Ytefeedpeiiaanaa
open Go.RowKit

/-- What impl.compareItems says of two items. -/
def cmpP (a b : Int × Int) : Int := if cmpI a.1 b.1 = 0 then cmpI a.2 b.2 else cmpI a.1 b.1
theorem cmpI_neg (x y : Int) : cmpI x y < 0 ↔ x < y := by unfold cmpI; split <;> (try split) <;> omega
theorem cmpI_zero (x y : Int) : cmpI x y = 0 ↔ x = y := by unfold cmpI; split <;> (try split) <;> omega
theorem cmpP_neg (a b : Int × Int) : cmpP a b < 0 ↔ leP b a = false := by
  rw [leP_false]
  unfold cmpP
  have h1 := cmpI_neg a.1 b.1
  have h2 := cmpI_neg a.2 b.2
  have h3 := cmpI_zero a.1 b.1
  split <;> omega
theorem cmpP_zero (a b : Int × Int) : cmpP a b = 0 ↔ a = b := by
  have h3 := cmpI_zero a.1 b.1
  have h4 := cmpI_zero a.2 b.2
  rw [Prod.ext_iff]
  unfold cmpP
  split <;> omega

theorem or_ok (b : Nat) (x y : Int) (w : World) (h0 : w.cell? ⟨b, 0, none⟩ = some (.int .i64 x)) (h1 : w.cell? ⟨b, 1, none⟩ = some (.int .i64 y)) :
    Calls Try.prog 42 #[.slice (some ⟨b, 0, none⟩) 2 2] w fun e w' => e = .returned (.int .i64 (if x = 0 then y else x)) ∧ w = w' := by
  by_cases hx : x = 0
  · subst hx
    by_cases hy : y = 0
    · subst hy
      go_enter Try.func42, Try.ntmps42
      go_wp2
      refine wp_loop_rounds 3 ?_
      rw [rounds_succ]
      go_wp2
      rw [rounds_succ]
      go_wp2
      rw [rounds_succ]
      go_wp2
      go_ret
      exact ⟨rfl, rfl⟩
    · have hb : (y != 0) = true := by simpa using hy
      go_enter Try.func42, Try.ntmps42
      go_wp2
      refine wp_loop_rounds 2 ?_
      rw [rounds_succ]
      go_wp2
      rw [rounds_succ]
      go_wp2
      go_ret
      exact ⟨rfl, rfl⟩
  · have hb : (x != 0) = true := by simpa using hx
    go_enter Try.func42, Try.ntmps42
    go_wp2
    refine wp_loop_rounds 1 ?_
    rw [rounds_succ]
    go_wp2
    go_ret
    exact ⟨rfl, rfl⟩

theorem or_to (b : Nat) (x y r : Int) (hr : (if x = 0 then y else x) = r) (w : World) (h0 : w.cell? ⟨b, 0, none⟩ = some (.int .i64 x)) (h1 : w.cell? ⟨b, 1, none⟩ = some (.int .i64 y)) :
    Calls Try.prog 42 #[.slice (some ⟨b, 0, none⟩) 2 2] w fun e w' => e = .returned (.int .i64 r) ∧ w = w' := by
  subst hr
  exact or_ok b x y w h0 h1

set_option maxHeartbeats 1600000 in
theorem compareItems_ok (a b : Int × Int) (w : World) :
    Calls Try.prog 35 #[.agg #[.int .i64 a.1, .int .i64 a.2], .agg #[.int .i64 b.1, .int .i64 b.2]] w fun e w' => e = .returned (.int .i64 (cmpP a b)) ∧ Ext w w' := by
  obtain ⟨r, hr⟩ : ∃ r, (if cmpI a.1 b.1 = 0 then cmpI a.2 b.2 else cmpI a.1 b.1) = r := ⟨_, rfl⟩
  have e : cmpP a b = r := hr
  rw [e]
  clear e
  obtain ⟨a1, a2⟩ := a
  obtain ⟨b1, b2⟩ := b
  have HC := Lib.hid hr
  clear hr
  go_enter Try.func35, Try.ntmps35
  go_wp2_with fail
  go_region_held3 (fun w' => w'.cell? ⟨w.heap.size, 0, none⟩ = some (.int .i64 a1) ∧ w'.cell? ⟨w.heap.size, 1, none⟩ = some (.int .i64 a2) ∧ w'.cell? ⟨w.heap.size + 1, 0, none⟩ = some (.int .i64 b1) ∧ w'.cell? ⟨w.heap.size + 1, 1, none⟩ = some (.int .i64 b2))
    (go_keep)
    (first | (go_at_call 43; refine (compare_ok _ _ _).mono ?_; rintro e w' ⟨rfl, rfl⟩) | (go_at_call 42; refine (or_to _ (cmpI a1 b1) (cmpI a2 b2) r HC.out _ ?_ ?_).mono ?_; (· go_simp); (· go_simp); rintro e w' ⟨rfl, rfl⟩))
  all_goals
    go_wp2
    go_ret
    exact ⟨rfl, (by repeat (first | exact Ext.refl _ | assumption | refine Ext.drew ?_ | refine Ext.drewN ?_ _ | refine Ext.alloc ?_ _ | refine Ext.trans ?_ (by assumption)))⟩
end Go.Proofs.Ytefeedpeiiaanaa
