/- The contract of slices.BinarySearchFunc at items: the place of an item in items that are in order. No statement of the seat is proved here. -/
import Derived.Test.YtefeedpeiiaanaaCompare
import Derived.Deep.DeepCutAuto
namespace Go.Proofs.Ytefeedpeiiaanaa
open Go.RowKit

/-- The place of an item, and whether it is there. -/
def PFound (S : List (Int × Int)) (x : Int × Int) (n i : Nat) (is : Bool) : Prop :=
  i ≤ n ∧ (∀ t y, t < i → S[t]? = some y → leP x y = false) ∧ (∀ t y, i ≤ t → S[t]? = some y → leP x y = true) ∧ (is = true ↔ S[i]? = some x)
def PLoop (S : List (Int × Int)) (x : Int × Int) (lo hi : Nat) : Prop :=
  (∀ t y, t < lo → S[t]? = some y → leP x y = false) ∧ (∀ t y, hi ≤ t → S[t]? = some y → leP x y = true)
theorem PLoop.start {S : List (Int × Int)} {x : Int × Int} {n : Nat} (hl : S.length = n) : PLoop S x 0 n :=
  ⟨fun t y h => absurd h (Nat.not_lt_zero _), fun t y h hy => (by rw [List.getElem?_eq_none (by omega)] at hy; cases hy)⟩
theorem ord_at {S : List (Int × Int)} (ho : Ord S) {s t : Nat} {y z : Int × Int} (h : s < t) (hy : S[s]? = some y) (hz : S[t]? = some z) : leP y z = true := by
  obtain ⟨h2, e2⟩ := List.getElem?_eq_some_iff.1 hy
  obtain ⟨h3, e3⟩ := List.getElem?_eq_some_iff.1 hz
  rw [← e2, ← e3]
  exact List.pairwise_iff_getElem.1 ho s t h2 h3 h
theorem PLoop.right {S : List (Int × Int)} {x y : Int × Int} {lo hi m : Nat} (h : PLoop S x lo hi) (ho : Ord S) (hx : S[m]? = some y) (hk : leP x y = false) : PLoop S x (m + 1) hi := by
  refine ⟨fun t z ht hz => ?_, h.2⟩
  rcases Nat.lt_or_ge t m with h1 | h1
  · have := ord_at ho h1 hz hx
    cases e : leP x z with
    | false => rfl
    | true => rw [leP_trans e this] at hk; cases hk
  · obtain rfl : t = m := by omega
    rw [hx] at hz
    injection hz with hz
    subst hz
    exact hk
theorem PLoop.left {S : List (Int × Int)} {x y : Int × Int} {lo hi m : Nat} (h : PLoop S x lo hi) (ho : Ord S) (hx : S[m]? = some y) (hk : leP x y = true) : PLoop S x lo m := by
  refine ⟨h.1, fun t z ht hz => ?_⟩
  rcases Nat.lt_or_ge m t with h1 | h1
  · exact leP_trans hk (ord_at ho h1 hx hz)
  · obtain rfl : t = m := by omega
    rw [hx] at hz
    injection hz with hz
    subst hz
    exact hk
theorem PLoop.found {S : List (Int × Int)} {x y : Int × Int} {n i : Nat} (h : PLoop S x i i) (hi : i < n) (hx : S[i]? = some y) : PFound S x n i (decide (y = x)) := by
  refine ⟨by omega, h.1, h.2, ?_⟩
  rw [decide_eq_true_eq, hx, Option.some.injEq]
theorem PLoop.past {S : List (Int × Int)} {x : Int × Int} {n : Nat} (h : PLoop S x n n) (hl : S.length = n) : PFound S x n n false := by
  refine ⟨Nat.le_refl _, h.1, h.2, ?_⟩
  rw [List.getElem?_eq_none (by omega)]
  simp

set_option maxHeartbeats 1600000 in
theorem bsearchP_ok (A : Option Addr) (n c : Nat) (S : List (Int × Int)) (x : Int × Int) (w : World) (hx : Row w 2 A n c (its S)) (ho : Ord S) (hs : n ≤ 1099511627776) :
    Calls Try.prog 34 #[.slice A n c, .agg #[.int .i64 x.1, .int .i64 x.2], .func (.func 35) #[] #[]] w fun e w' =>
      ∃ (i : Nat) (is : Bool), e = .returned (.tuple #[.int .i64 i, .bool is]) ∧ Hid (PFound S x n i is) ∧ Hid (Ext w w') := by
  have HX := Lib.hid hx
  have HO := Lib.hid ho
  have HL := Lib.hid hx.its_len
  clear hx ho
  obtain ⟨x1, x2⟩ := x
  simp only
  go_enter Try.func34, Try.ntmps34
  go_wp2
  have t1 : (w.alloc (.cells #[.int .i64 x1, .int .i64 x2] 28)).cell? ⟨w.heap.size, 0, none⟩ = some (.int .i64 x1) := by go_simp
  have t2 : (w.alloc (.cells #[.int .i64 x1, .int .i64 x2] 28)).cell? ⟨w.heap.size, 1, none⟩ = some (.int .i64 x2) := by go_simp
  have hE0 : Ext w (w.alloc (.cells #[.int .i64 x1, .int .i64 x2] 28)) := (Ext.refl w).alloc _
  have HE0 := Lib.hid hE0
  clear hE0
  generalize w.alloc (.cells #[.int .i64 x1, .int .i64 x2] 28) = w0 at t1 t2 HE0
  have T1 := Lib.hid t1
  have T2 := Lib.hid t2
  clear t1 t2
  go_loopg [9, 10] n (fun kx s9 s10 wr => ∃ lo hi : Nat, s9 = .int .i64 lo ∧ s10 = .int .i64 hi ∧ lo ≤ hi ∧ hi ≤ n ∧ hi - lo ≤ kx ∧ Hid (PLoop S (x1, x2) lo hi) ∧ Hid (Ext w0 wr))
  case atStart => exact ⟨0, n, rfl, rfl, Nat.zero_le _, Nat.le_refl _, by omega, PLoop.start HL.out, Ext.refl _⟩
  case round =>
    obtain ⟨lo, hi, rfl, rfl, hlh, hin, hg, HS, HW⟩ := hrel
    have t1 := HW.out.cell_some T1.out
    have t2 := HW.out.cell_some T2.out
    by_cases hlt : lo < hi
    · obtain ⟨b, o, y1, y2, rfl, hxk, hc1, hc2⟩ := (HX.out.ext (HE0.out.trans HW.out)).item_at (k := (lo + hi) / 2) (by omega)
      have hin2 : (lo + hi) / 2 < n := by omega
      have sn : (0 : Int) ≤ ((lo : Int) + (hi : Int)) / 2 := by omega
      have sl : ((lo : Int) + (hi : Int)) / 2 < (n : Int) := by omega
      have st : (((lo : Int) + (hi : Int)) / 2).toNat = (lo + hi) / 2 := by omega
      by_cases hk : leP (x1, x2) (y1, y2) = false
      · have hc := (cmpP_neg (y1, y2) (x1, x2)).2 hk
        have HCI := Lib.hid (compareItems_ok (y1, y2) (x1, x2))
        generalize cmpP (y1, y2) (x1, x2) = cv at hc HCI
        go_wp2
        go_region_with ((go_at_call 35; refine (HCI.out _).mono ?_; rintro e w1 ⟨rfl, hw1⟩))
        all_goals
          clear sn sl st
          have HW1 : Hid (Ext w0 w1) := HW.out.drew.trans hw1
          clear hw1
          go_wp2
          go_roundg (gk - 1)
          case measure => omega
          case rel =>
            exact ⟨(lo + hi) / 2 + 1, hi, by rw [show ((lo : Int) + (hi : Int)) / 2 + 1 = (((lo + hi) / 2 + 1 : Nat) : Int) by omega], rfl, by omega, hin, by omega, HS.out.right HO.out hxk.out hk, HW1.out⟩
      · have hk2 : leP (x1, x2) (y1, y2) = true := by simpa using hk
        have hc : 0 ≤ cmpP (y1, y2) (x1, x2) := by
          rcases Int.lt_or_le (cmpP (y1, y2) (x1, x2)) 0 with h | h
          · exact absurd ((cmpP_neg (y1, y2) (x1, x2)).1 h) hk
          · exact h
        have HCI := Lib.hid (compareItems_ok (y1, y2) (x1, x2))
        have HK := Lib.hid hk2
        clear hk hk2
        generalize cmpP (y1, y2) (x1, x2) = cv at hc HCI
        go_wp2
        go_region_with ((go_at_call 35; refine (HCI.out _).mono ?_; rintro e w1 ⟨rfl, hw1⟩))
        all_goals
          clear sn sl st
          have HW1 : Hid (Ext w0 w1) := HW.out.drew.trans hw1
          clear hw1
          go_wp2
          go_roundg (gk - 1)
          case measure => omega
          case rel =>
            exact ⟨lo, (lo + hi) / 2, rfl, by rw [show ((lo : Int) + (hi : Int)) / 2 = (((lo + hi) / 2 : Nat) : Int) by omega], by omega, by omega, by omega, HS.out.left HO.out hxk.out HK.out, HW1.out⟩
    · obtain rfl : lo = hi := by omega
      by_cases hn : lo < n
      · obtain ⟨b, o, y1, y2, rfl, hxk, hc1, hc2⟩ := (HX.out.ext (HE0.out.trans HW.out)).item_at (k := lo) hn
        have HF := Lib.hid (HS.out.found hn hxk.out)
        have HCI := Lib.hid (compareItems_ok (y1, y2) (x1, x2))
        have HQ : Hid ((cmpP (y1, y2) (x1, x2) == 0) = decide ((y1, y2) = (x1, x2))) := Lib.hid (by rw [Bool.eq_iff_iff]; simp only [beq_iff_eq, decide_eq_true_eq]; exact cmpP_zero _ _)
        generalize cmpP (y1, y2) (x1, x2) = cv at HCI HQ
        have sn : (0 : Int) ≤ (lo : Int) := by omega
        have sl : (lo : Int) < (n : Int) := by omega
        go_wp2
        go_region_held3 (fun w' => w'.cell? ⟨b, o + lo * 2, none⟩ = some (.int .i64 y1) ∧ w'.cell? ⟨b, o + lo * 2 + 1, none⟩ = some (.int .i64 y2) ∧ w'.cell? ⟨w.heap.size, 0, none⟩ = some (.int .i64 x1) ∧ w'.cell? ⟨w.heap.size, 1, none⟩ = some (.int .i64 x2))
          (first | go_keep | exact ⟨hw1.cell_some hc1, hw1.cell_some hc2, hw1.cell_some t1, hw1.cell_some t2⟩)
          ((go_at_call 35; refine (HCI.out _).mono ?_; rintro e w1 ⟨rfl, hw1⟩))
        all_goals
          have HW1 : Hid (Ext w w1) := (HE0.out.trans HW.out).drew.trans hw1
          clear hw1
          go_wp2
          go_ret2
          exact ⟨lo, _, rfl, by rw [HQ.out]; exact HF.out, HW1.out⟩
      · obtain rfl : lo = n := by omega
        have d1 : decide (lo < lo) = false := by simp
        go_wp2
        go_quiet (fail)
        go_wp2
        go_ret2
        exact ⟨lo, false, rfl, HS.out.past HL.out, (HE0.out.trans HW.out).drewN _⟩
end Go.Proofs.Ytefeedpeiiaanaa
