/- The contract of laws.items: it returns the items of two lists. No statement of the seat is proved here. -/
import Derived.Test.YtefeedpeiiaanaaInt
namespace Go.Proofs.Ytefeedpeiiaanaa
open Go.RowKit
theorem elItem : El Try.prog 23 28 2 16 := El.mk' (z := .agg #[.int .i64 0, .int .i64 0]) Try.underlying23 (by kernel_rfl) rfl (by decide)

set_option maxHeartbeats 400000 in
theorem items_ok (A B : Option Addr) (n m c d : Nat) (xs ys : List Int) (w : World) (hx : Row w 1 A n c (ints xs)) (hy : Row w 1 B m d (ints ys)) (hs : n ≤ 1099511627776) :
    Calls Try.prog 14 #[.slice A n c, .slice B m d] w fun e w' => ∃ C k, e = .returned (.slice C (min n m) k) ∧ Row w' 2 C (min n m) k (its (xs.zip ys)) ∧ Ext w w' := by
  have hnl := hx.lim
  have hml := hy.lim
  unfold maxLen at hnl hml
  have HX := Lib.hid hx
  have HY := Lib.hid hy
  clear hx hy
  go_enter Try.func14, Try.ntmps14
  go_wp2
  go_loopw [5, 6] (fun v i wr => ∃ k : Nat, k ≤ min n m ∧ i = .int .i64 k ∧ wr.ownsRow w.heap.size 28 2 v k (its ((xs.zip ys).take k)) ∧ Ext w wr) (fun _ i _ => min n m - (intOf i).toNat)
  case atStart => exact ⟨0, Nat.zero_le _, rfl, own_lit0 _ _ _, (Ext.refl w).alloc _⟩
  case round =>
    obtain ⟨k, hk, rfl, hown, hext⟩ := hrel
    have hz := hext.size
    have HO := Lib.hid hown
    have HE := Lib.hid hext
    clear hown hext
    by_cases hlt : k < min n m
    · obtain ⟨b, o, x, rfl, hxk, hcx⟩ := (HX.out.ext HE.out).int_at (k := k) (by omega)
      obtain ⟨b', o', y, rfl, hyk, hcy⟩ := (HY.out.ext HE.out).int_at (k := k) (by omega)
      have HN := Lib.hid (take_snoc (zip_get hxk.out hyk.out))
      have hml1 : 1 ≤ maxLen := by unfold maxLen; omega
      have hmx : k + 1 ≤ maxLen := by unfold maxLen; omega
      have hby : (k + 1) * 16 ≤ 140737488355328 := by omega
      have hone := its_one [(x, y)]
      have : k < n := by omega
      have : k < m := by omega
      by_cases hmn : m < n
      all_goals
        go_wp2
        go_region_law (refine step_app elItem rfl (.tmp 17) (.tmp 27) rfl w.heap.size u5 k _ rfl ((HO.out.drew).alloc _) (some ⟨wr.heap.size, 0, none⟩) 1 1 [.int .i64 x, .int .i64 y] rfl (Row.fresh _ 28 2 #[.int .i64 x, .int .i64 y] 1 rfl hml1) hone hby hmx (by simp; omega) ?_; intro v' w1 HO1 HG1 _)
        all_goals
          go_wp2
          go_roundw
          case rel =>
            exact ⟨k + 1, by omega, by go_num, by rw [HN.out, its_append]; exact HO1.out, (HE.out.alloc _).drew.grown HG1.out fun g hg => (HO.out.lt g hg).1⟩
          case measure => simp [intOf]; omega
    · by_cases hmn : m < n
      all_goals
        obtain rfl : k = min n m := by omega
        go_wp2
        go_ret
        obtain ⟨C, q, rfl, hr⟩ := own_form HO.out
        refine ⟨C, q, rfl, ?_, HE.out⟩
        have e : (xs.zip ys).take (min n m) = xs.zip ys := List.take_of_length_le (by rw [List.length_zip, HX.out.ints_len, HY.out.ints_len]; omega)
        rw [e] at hr
        exact hr
end Go.Proofs.Ytefeedpeiiaanaa
