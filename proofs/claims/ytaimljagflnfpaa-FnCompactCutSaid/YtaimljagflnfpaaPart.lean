/- The contracts of spec.Part and spec.Joined: a part of a list, and lists one behind the other. No statement of the seat is proved here. -/
import Derived.Test.YtaimljagflnfpaaInt
namespace Go.Proofs.Ytaimljagflnfpaa
open Go.RowKit

set_option maxHeartbeats 400000 in
theorem part_own (A : Option Addr) (n c : Nat) (i j : Int) (xs : List Int) (w : World) (hx : Row w 1 A n c (ints xs)) (hi : 0 ≤ i) (hj0 : 0 ≤ j) (hj : j ≤ n) (hs : n ≤ 1099511627776) :
    Calls Try.prog 24 #[.slice A n c, .int .i64 i, .int .i64 j] w fun e w' => ∃ C m k, e = .returned (.slice C m k) ∧ w'.ownsRow w.heap.size 3 1 (.slice C m k) m (ints ((xs.take j.toNat).drop i.toNat)) ∧ Ext w w' := by
  obtain ⟨i, rfl⟩ := Int.eq_ofNat_of_zero_le hi
  obtain ⟨j, rfl⟩ := Int.eq_ofNat_of_zero_le hj0
  simp only [Int.toNat_natCast]
  have HX := Lib.hid hx
  clear hx
  have hjn : j ≤ n := by omega
  go_enter Try.func24, Try.ntmps24
  go_wp2
  go_loopw [7, 8] (fun v q wr => ∃ k : Nat, q = .int .i64 ((i + k : Nat) : Int) ∧ (k = 0 ∨ i + k ≤ j) ∧ wr.ownsRow w.heap.size 3 1 v k (ints ((xs.drop i).take k)) ∧ Ext w wr) (fun _ q _ => j - (intOf q).toNat)
  case atStart => exact ⟨0, rfl, .inl rfl, own_lit0 _ _ _, (Ext.refl w).alloc _⟩
  case round =>
    obtain ⟨k, rfl, hk, hown, hext⟩ := hrel
    have hz := hext.size
    have HO := Lib.hid hown
    have HE := Lib.hid hext
    clear hown hext
    by_cases hlt : i + k < j
    · obtain ⟨b, o, x, rfl, hxk, hcx⟩ := (HX.out.ext HE.out).int_at (k := i + k) (by omega)
      have HN := Lib.hid (take_snoc (l := xs.drop i) (k := k) (x := x) (by rw [List.getElem?_drop]; exact hxk.out))
      have hml1 : 1 ≤ maxLen := by unfold maxLen; omega
      have hmx : k + 1 ≤ maxLen := by unfold maxLen; omega
      have hby : (k + 1) * 8 ≤ 140737488355328 := by omega
      have hone := ints_one [x]
      have hin : i + k < n := by omega
      go_wp2_with (at_builtin; refine wpList_app elInt rfl _ _ rfl w.heap.size u7 k _ rfl (HO.out.alloc _) _ 1 1 [.int .i64 x] rfl (Row.fresh _ 3 1 #[.int .i64 x] 1 rfl hml1) hone hby hmx (by simp; omega) ?_; intro v' w1 HO1 HG1 _)
      go_roundw
      case rel =>
        exact ⟨k + 1, by go_num, .inr (by omega), by rw [HN.out, ints_append]; exact HO1.out, (HE.out.alloc _).grown HG1.out fun g hg => (HO.out.lt g hg).1⟩
      case measure => simp [intOf]; omega
    · go_wp2
      go_ret
      have ho := HO.out
      obtain ⟨C, q, rfl, -⟩ := own_form ho
      refine ⟨C, _, q, rfl, ?_, HE.out⟩
      have e : (xs.drop i).take k = (xs.take j).drop i := by
        rw [List.drop_take]
        rcases hk with h | h
        · subst h
          rw [show j - i = 0 by omega]
        · rw [show j - i = k by omega]
      rw [e] at ho
      exact ho
theorem part_ok (A : Option Addr) (n c : Nat) (i j : Int) (xs : List Int) (w : World) (hx : Row w 1 A n c (ints xs)) (hi : 0 ≤ i) (hj0 : 0 ≤ j) (hj : j ≤ n) (hs : n ≤ 1099511627776) :
    Calls Try.prog 24 #[.slice A n c, .int .i64 i, .int .i64 j] w fun e w' => ∃ C m k, e = .returned (.slice C m k) ∧ Row w' 1 C m k (ints ((xs.take j.toNat).drop i.toNat)) ∧ Ext w w' :=
  (part_own A n c i j xs w hx hi hj0 hj hs).mono fun _ _ ⟨C, m, k, h1, h2, h3⟩ => ⟨C, m, k, h1, Row.own h2, h3⟩

/-- A slice of slices of integers. -/
def Lists (w : World) (A : Option Addr) (n c : Nat) (L : List (List Int)) : Prop :=
  ∃ vs : List Value, Row w 1 A n c vs ∧ vs.length = L.length ∧ ∀ (i : Nat) (xs : List Int), L[i]? = some xs → ∃ B m d, vs[i]? = some (Value.slice B m d) ∧ Row w 1 B m d (ints xs)
theorem Lists.ext {w w' : World} {A : Option Addr} {n c : Nat} {L : List (List Int)} (h : Lists w A n c L) (k : Ext w w') : Lists w' A n c L := by
  obtain ⟨vs, hr, hl, hi⟩ := h
  refine ⟨vs, hr.ext k, hl, fun i xs hx => ?_⟩
  obtain ⟨B, m, d, h1, h2⟩ := hi i xs hx
  exact ⟨B, m, d, h1, h2.ext k⟩
theorem Lists.lim {w : World} {A : Option Addr} {n c : Nat} {L : List (List Int)} (h : Lists w A n c L) : n ≤ maxLen := by
  obtain ⟨vs, hr, _⟩ := h
  exact hr.lim
theorem Lists.len {w : World} {A : Option Addr} {n c : Nat} {L : List (List Int)} (h : Lists w A n c L) : L.length = n := by
  obtain ⟨vs, hr, hl, _⟩ := h
  have := hr.len
  omega
theorem Lists.at_ {w : World} {A : Option Addr} {n c : Nat} {L : List (List Int)} (h : Lists w A n c L) {k : Nat} (hk : k < n) :
    ∃ b o B m d xs, A = some ⟨b, o, none⟩ ∧ w.cell? ⟨b, o + k, none⟩ = some (.slice B m d) ∧ Hid (L[k]? = some xs) ∧ Hid (Row w 1 B m d (ints xs)) := by
  have hl := h.len
  obtain ⟨vs, hr, _, hi⟩ := h
  obtain ⟨b, o, rfl, hc⟩ := hr.2.2.2 (by omega)
  have hx : L[k]? = some L[k] := List.getElem?_eq_getElem (by omega)
  obtain ⟨B, m, d, h1, h2⟩ := hi k _ hx
  exact ⟨b, o, B, m, d, L[k], rfl, hc k _ h1, hx, h2⟩
theorem flat_le {L : List (List Int)} {k : Nat} {xs : List Int} (h : L[k]? = some xs) : (L.take k).flatten.length + xs.length ≤ L.flatten.length := by
  have e := take_snoc h
  have h2 : (L.take (k + 1)).flatten.length ≤ L.flatten.length := by
    conv => rhs; rw [← List.take_append_drop (k + 1) L]
    rw [List.flatten_append, List.length_append]
    omega
  rw [e, List.flatten_append, List.length_append] at h2
  simpa using h2

set_option maxHeartbeats 800000 in
theorem joined_own (A : Option Addr) (n c : Nat) (L : List (List Int)) (w : World) (hx : Lists w A n c L) (hs : L.flatten.length ≤ 1099511627776) :
    Calls Try.prog 17 #[.slice A n c] w fun e w' => ∃ C k, e = .returned (.slice C L.flatten.length k) ∧ w'.ownsRow w.heap.size 3 1 (.slice C L.flatten.length k) L.flatten.length (ints L.flatten) ∧ Ext w w' := by
  have hnl := hx.lim
  unfold maxLen at hnl
  have HX := Lib.hid hx
  clear hx
  have HS := Lib.hid hs
  clear hs
  go_enter Try.func17, Try.ntmps17
  go_wp2
  go_loopw [3, 11] (fun v q wr => ∃ k : Nat, k ≤ n ∧ q = .int .i64 k ∧ wr.ownsRow w.heap.size 3 1 v (L.take k).flatten.length (ints (L.take k).flatten) ∧ Ext w wr) (fun _ q _ => n - (intOf q).toNat)
  case atStart => exact ⟨0, Nat.zero_le _, rfl, own_lit0 _ _ _, (Ext.refl w).alloc _⟩
  case round =>
    obtain ⟨k, hk, rfl, hown, hext⟩ := hrel
    have HO := Lib.hid hown
    have HE := Lib.hid hext
    clear hown hext
    by_cases hlt : k < n
    · obtain ⟨b, o, B, m, d, xs, rfl, hcell, hLk, hrow⟩ := HX.out.at_ hlt
      have hcell' := HE.out.cell_some hcell
      clear hcell
      have hml := hrow.out.lim
      unfold maxLen at hml
      obtain ⟨wo, rfl⟩ : ∃ wo : World, wo = wr := ⟨_, rfl⟩
      go_wp2
      go_loopw [3, 17] (fun v q wr => ∃ j : Nat, j ≤ m ∧ q = .int .i64 j ∧ wr.ownsRow w.heap.size 3 1 v ((L.take k).flatten.length + j) (ints ((L.take k).flatten ++ xs.take j)) ∧ Ext w wr) (fun _ q _ => m - (intOf q).toNat)
      case atStart => exact ⟨0, Nat.zero_le _, rfl, by simpa using HO.out, HE.out⟩
      case round =>
        obtain ⟨j, hj, rfl, hown, hext⟩ := hrel
        have hz := hext.size
        have HO1 := Lib.hid hown
        have HE1 := Lib.hid hext
        clear hown hext
        by_cases hjt : j < m
        · obtain ⟨b1, o1, x, rfl, hxk, hcx⟩ := (hrow.out.ext HE1.out).int_at (k := j) hjt
          have HN := Lib.hid (take_snoc hxk.out)
          have hml1 : 1 ≤ maxLen := by unfold maxLen; omega
          have hfl := flat_le hLk.out
          have hxl := hrow.out.ints_len
          have hmx : (L.take k).flatten.length + j + 1 ≤ maxLen := by have := HS.out; unfold maxLen; omega
          have hby : ((L.take k).flatten.length + j + 1) * 8 ≤ 140737488355328 := by have := HS.out; omega
          have HB := Lib.hid hby
          have HM := Lib.hid hmx
          clear hfl hxl hby hmx
          have hone := ints_one [x]
          go_wp2_with (at_builtin; refine wpList_app elInt rfl _ _ rfl w.heap.size _ _ _ rfl (HO1.out.alloc _) _ 1 1 [.int .i64 x] rfl (Row.fresh _ 3 1 #[.int .i64 x] 1 rfl hml1) hone HB.out HM.out (by simp; omega) ?_; intro v' w1 HO2 HG2 _)
          go_roundw
          case rel =>
            exact ⟨j + 1, by omega, by go_num, by rw [HN.out, ← List.append_assoc, ints_append]; exact HO2.out, (HE1.out.alloc _).grown HG2.out fun g hg => (HO1.out.lt g hg).1⟩
          case measure => simp [intOf]; omega
        · go_wp2
          go_roundw
          case rel =>
            obtain rfl : j = m := by omega
            have e : xs.take j = xs := List.take_of_length_le (by rw [hrow.out.ints_len]; omega)
            have e2 : (L.take (k + 1)).flatten = (L.take k).flatten ++ xs := by rw [take_snoc hLk.out, List.flatten_append]; simp
            have h1 := HO1.out
            rw [e] at h1
            refine ⟨k + 1, by omega, by go_num, ?_, HE1.out⟩
            rw [e2, List.length_append, hrow.out.ints_len]
            exact h1
          case measure => simp [intOf]; omega
    · go_wp2
      go_ret
      obtain rfl : k = n := by omega
      have e : L.take k = L := List.take_of_length_le (by rw [HX.out.len]; omega)
      have ho := HO.out
      rw [e] at ho
      obtain ⟨C, q, rfl, hr⟩ := own_form ho
      exact ⟨C, q, rfl, ho, HE.out⟩
theorem joined_ok (A : Option Addr) (n c : Nat) (L : List (List Int)) (w : World) (hx : Lists w A n c L) (hs : L.flatten.length ≤ 1099511627776) :
    Calls Try.prog 17 #[.slice A n c] w fun e w' => ∃ C k, e = .returned (.slice C L.flatten.length k) ∧ Row w' 1 C L.flatten.length k (ints L.flatten) ∧ Ext w w' :=
  (joined_own A n c L w hx hs).mono fun _ _ ⟨C, k, h1, h2, h3⟩ => ⟨C, k, h1, Row.own h2, h3⟩
/-- The same, with the list and its length as the caller says them. -/
theorem joined_to (A : Option Addr) (n c : Nat) (L : List (List Int)) (N : Nat) (M : List Int) (hJ : L.flatten = M ∧ M.length = N) (w : World) (hx : Lists w A n c L) (hs : N ≤ 1099511627776) :
    Calls Try.prog 17 #[.slice A n c] w fun e w' => ∃ C k, e = .returned (.slice C N k) ∧ Row w' 1 C N k (ints M) ∧ Ext w w' := by
  obtain ⟨rfl, rfl⟩ := hJ
  exact joined_ok A n c L w hx hs
end Go.Proofs.Ytaimljagflnfpaa
