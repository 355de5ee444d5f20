/- The contracts of slices.Grow at int, of nothing, and of slices.Concat at int: lists one behind the other in a new row. No statement of the seat is proved here. -/
import Derived.Test.YtaimljagflnfpaaInt
import Derived.Test.YtaimljagflnfpaaPart
namespace Go.Proofs.Ytaimljagflnfpaa
open Go.RowKit

set_option maxRecDepth 100000 in
set_option maxHeartbeats 400000 in
theorem grow_nil (w : World) (N : Nat) (hN : N ≤ 17592186043904) :
    Calls Try.prog 36 #[.slice none 0 0, .int .i64 (N : Int)] w fun e w' => ∃ v', e = .returned v' ∧ w'.ownsRow w.heap.size 3 1 v' 0 [] ∧ Ext w w' := by
  by_cases h0 : N = 0
  · subst h0
    go_enter Try.func36, Try.ntmps36
    go_wp2
    go_ret
    exact ⟨_, rfl, ⟨rfl, .inl ⟨rfl, rfl⟩⟩, Ext.refl w⟩
  · obtain ⟨c', cur', hrun, hc1, hc2, hcl, hct⟩ := app_zeros1 w 22 none 0 0 N N [] (Row.nil w 1) (by omega) (by omega) (by omega) (by omega)
    have hB1 : Blk (w.drew.alloc (.cells cur'.toArray 3)) w.heap.size 3 cur' := heap_alloc_new w.drew _
    have hE1 : Ext w (w.drew.alloc (.cells cur'.toArray 3)) := (Ext.refl w).drew.alloc _
    generalize w.drew.alloc (.cells cur'.toArray 3) = W1 at hrun hB1 hE1
    have HRUN := Lib.hid hrun
    have HB1 := Lib.hid hB1
    have HE1 := Lib.hid hE1
    have HCL := Lib.hid hcl
    clear hrun hB1 hE1 hcl hct
    have hc2' := hc2
    unfold maxLen at hc2'
    have hN0 : (0 : Int) < (N : Int) := by omega
    have hNn : ¬ (N : Int) < 0 := by omega
    go_enter Try.func36, Try.ntmps36
    go_wp2_with (with_reducible refine stand_at 22 ?_)
    refine Stand.mk (wpList_append_run rfl _ _ _ rfl _ _ rfl rfl _ _ HRUN.out ?_)
    go_wp2
    go_ret
    have hfin := own_mk1 (base := w.heap.size) (n := 0) (c := c') (Nat.le_refl _) HB1.out (Nat.zero_le _) hc2 HCL.out
    exact ⟨_, rfl, by simpa using hfin, HE1.out⟩

set_option maxRecDepth 100000 in
set_option maxHeartbeats 800000 in
theorem concatInt_ok (A : Option Addr) (n c : Nat) (L : List (List Int)) (w : World) (hx : Lists w A n c L) (hs : L.flatten.length ≤ 17592186043904) :
    Calls Try.prog 32 #[.slice A n c] w fun e w' => ∃ v', e = .returned v' ∧ w'.ownsRow w.heap.size 3 1 v' L.flatten.length (ints L.flatten) ∧ Ext w w' := by
  have hnl := hx.lim
  unfold maxLen at hnl
  have HX := Lib.hid hx
  clear hx
  have HS := Lib.hid hs
  clear hs
  go_enter Try.func32, Try.ntmps32
  go_wp2
  go_loop [3, 11] (fun s i => ∃ k N : Nat, k ≤ n ∧ i = .int .i64 (k : Int) ∧ s = .int .i64 (N : Int) ∧ Hid (N = (L.take k).flatten.length) ∧ N ≤ 17592186043904) (fun _ i => n - (intOf i).toNat)
  case atStart => exact ⟨0, 0, Nat.zero_le _, rfl, rfl, rfl, by omega⟩
  case round =>
    obtain ⟨k, N, hk, rfl, rfl, HN, hNb⟩ := hrel
    by_cases hlt : k < n
    · obtain ⟨b, o, B, m, d, xs, rfl, hcell, hLk, hrow⟩ := HX.out.at_ hlt
      have hml := hrow.out.lim
      unfold maxLen at hml
      have hfl := flat_le hLk.out
      have hxl := hrow.out.ints_len
      have HSN : Hid (N + m = (L.take (k + 1)).flatten.length) := Lib.hid (by rw [take_snoc hLk.out, List.flatten_append, List.length_append, ← HN.out]; simp [hxl])
      have hnm : N + m ≤ 17592186043904 := by have h1 := HS.out; have h2 := HN.out; omega
      clear hfl hxl
      have hneg : ¬ (N : Int) + (m : Int) < 0 := by omega
      go_wp2
      go_round
      case rel => exact ⟨k + 1, N + m, by omega, by go_num, by go_num, HSN, hnm⟩
      case measure => simp [intOf]; omega
    · obtain rfl : k = n := by omega
      have e1 : L.take k = L := List.take_of_length_le (by rw [HX.out.len]; exact Nat.le_refl _)
      rw [e1] at HN
      go_wp2_with fail
      refine (grow_nil w N hNb).mono ?_
      rintro e w1 ⟨v', rfl, k1, k2⟩
      have HO := Lib.hid k1
      have HE := Lib.hid k2
      clear k1 k2 e1
      go_wp2
      go_loopw [6, 27] (fun v q wr => ∃ j : Nat, j ≤ k ∧ q = .int .i64 (j : Int) ∧ Hid (wr.ownsRow w.heap.size 3 1 v (L.take j).flatten.length (ints (L.take j).flatten)) ∧ Hid (Ext w wr)) (fun _ q _ => k - (intOf q).toNat)
      case atStart => exact ⟨0, Nat.zero_le _, rfl, HO, HE⟩
      case round =>
        obtain ⟨j, hj, rfl, HO1, HE1⟩ := hrel
        by_cases hjt : j < k
        · obtain ⟨b, o, B, m, d, xs, rfl, hcell, hLk, hrow⟩ := HX.out.at_ hjt
          have hc1 := HE1.out.cell_some hcell
          clear hcell
          have hml := hrow.out.lim
          unfold maxLen at hml
          have hfl := flat_le hLk.out
          have hxl := hrow.out.ints_len
          have HBY : Hid (((L.take j).flatten.length + m) * 8 ≤ 140737488355328) := Lib.hid (by have h1 := HS.out; omega)
          have HMX : Hid ((L.take j).flatten.length + m ≤ maxLen) := Lib.hid (by have h1 := HS.out; unfold maxLen; omega)
          have HN2 : Hid ((L.take (j + 1)).flatten = (L.take j).flatten ++ xs) := Lib.hid (by rw [take_snoc hLk.out, List.flatten_append]; simp)
          have hz := HE1.out.size
          clear hfl
          have HXL := Lib.hid hxl
          clear hxl
          go_wp2_with (at_builtin; refine wpList_app elInt rfl _ _ rfl w.heap.size u6 _ _ rfl HO1.out B m d (ints xs) rfl (hrow.out.ext HE1.out) (ints_one _) HBY.out HMX.out hz ?_; intro v' w1 HO2 HG2 _)
          go_roundw
          case rel =>
            refine ⟨j + 1, by omega, by go_num, ?_, HE1.out.grown HG2.out fun g hg => (HO1.out.lt g hg).1⟩
            rw [HN2.out, List.length_append, HXL.out, ints_append]
            exact HO2.out
          case measure => simp [intOf]; omega
        · obtain rfl : j = k := by omega
          have e1 : L.take j = L := List.take_of_length_le (by rw [HX.out.len]; exact Nat.le_refl _)
          rw [e1] at HO1
          go_wp2
          go_ret
          exact ⟨_, rfl, HO1.out, HE1.out⟩
end Go.Proofs.Ytaimljagflnfpaa
