/- The contract of laws.turned. No statement of the seat is proved here. -/
import Derived.Test.YtaimljagflnfpaaRecsCut
import Derived.Test.YtaimljagflnfpaaMapPlain
namespace Go.Proofs.Ytaimljagflnfpaa
open Go.RowKit

/-- A number with some of its bits turned. -/
def tf (mask x : Int) : Int := bits BinOp.xor IntKind.i64 x mask
def In64 (x : Int) : Prop := -9223372036854775808 ≤ x ∧ x ≤ 9223372036854775807
theorem in64_of {x : Int} (h : (Lit.int .i64 x).wf = true) : In64 x := by
  simp [Lit.wf, IntKind.min, IntKind.max, IntKind.signed, IntKind.bits] at h
  exact h
theorem tf_in (mask x : Int) : In64 (tf mask x) := by
  have h := bits_within BinOp.xor IntKind.i64 x mask
  simp [IntKind.min, IntKind.max, IntKind.signed, IntKind.bits] at h
  exact h
theorem tf_inj {mask x y : Int} (hx : In64 x) (hy : In64 y) (h : tf mask x = tf mask y) : x = y := by
  have e : ∀ z : Int, tf mask z = IntKind.i64.wrap ((BitVec.ofInt 64 z ^^^ BitVec.ofInt 64 mask).toNat : Int) := fun z => rfl
  rw [e x, e y, IntKind.wrap_i64, IntKind.wrap_i64] at h
  have b1 := (BitVec.ofInt 64 x ^^^ BitVec.ofInt 64 mask).isLt
  have b2 := (BitVec.ofInt 64 y ^^^ BitVec.ofInt 64 mask).isLt
  have h1 : (BitVec.ofInt 64 x ^^^ BitVec.ofInt 64 mask).toNat = (BitVec.ofInt 64 y ^^^ BitVec.ofInt 64 mask).toNat := by omega
  have h2 := BitVec.eq_of_toNat_eq h1
  have h3 : BitVec.ofInt 64 x = BitVec.ofInt 64 y := by
    have := congrArg (fun t => t ^^^ BitVec.ofInt 64 mask) h2
    simpa [BitVec.xor_assoc] using this
  have h4 := congrArg BitVec.toInt h3
  rw [BitVec.toInt_ofInt, BitVec.toInt_ofInt] at h4
  unfold In64 at hx hy
  simp only [Int.bmod_def] at h4
  omega
/-- The same on all numbers, different ones by different ones. -/
def tg (mask x : Int) : Int := if -9223372036854775808 ≤ x ∧ x ≤ 9223372036854775807 then tf mask x else x
theorem tg_inj (mask : Int) : ∀ a b, tg mask a = tg mask b → a = b := by
  intro a b h
  unfold tg at h
  have ha := tf_in mask a
  have hb := tf_in mask b
  unfold In64 at ha hb
  by_cases h1 : -9223372036854775808 ≤ a ∧ a ≤ 9223372036854775807
  · rw [if_pos h1] at h
    by_cases h2 : -9223372036854775808 ≤ b ∧ b ≤ 9223372036854775807
    · rw [if_pos h2] at h; exact tf_inj h1 h2 h
    · rw [if_neg h2] at h; rw [h] at ha; exact absurd ha h2
  · rw [if_neg h1] at h
    by_cases h2 : -9223372036854775808 ≤ b ∧ b ≤ 9223372036854775807
    · rw [if_pos h2] at h; rw [← h] at hb; exact absurd hb h1
    · rw [if_neg h2] at h; exact h
theorem map_tg (mask : Int) (l : List Int) (h : ∀ x ∈ l, In64 x) : l.map (tf mask) = l.map (tg mask) := by
  refine List.map_congr_left fun x hx => ?_
  unfold tg
  exact (if_pos (show -9223372036854775808 ≤ x ∧ x ≤ 9223372036854775807 from h x hx)).symm

set_option maxRecDepth 100000 in
set_option maxHeartbeats 1600000 in
theorem turned_ok (A : Option Addr) (n c : Nat) (l : List Int) (mask : Int) (w : World) (hx : Row w 1 A n c (ints l)) (hn : n ≤ 1099511627776) :
    Calls Try.prog 20 #[.slice A n c, .int .i64 mask] w fun e w' => ∃ v, e = .returned v ∧ w'.ownsRow w.heap.size 3 1 v n (ints (l.map (tf mask))) ∧ Ext w w' := by
  have HX := Lib.hid hx
  clear hx
  go_enter Try.func20, Try.ntmps20
  go_wp2
  go_loopg [5, 11] n (fun kx v i wr => ∃ k : Nat, k + kx = n ∧ i = .int .i64 (k : Int) ∧ Hid (wr.ownsRow w.heap.size 3 1 v k (ints ((l.take k).map (tf mask)))) ∧ Hid (Ext w wr))
  case atStart => exact ⟨0, by omega, rfl, own_lit0 w _ _, (Ext.refl w).alloc _⟩
  case round =>
    obtain ⟨k, hk, rfl, HO, HE⟩ := hrel
    by_cases hlt : k < n
    · obtain ⟨b, o, x, rfl, hxk, hc1⟩ := (HX.out.ext HE.out).int_at (k := k) hlt
      have HN : Hid ((l.take (k + 1)).map (tf mask) = (l.take k).map (tf mask) ++ [tf mask x]) := Lib.hid (by rw [take_snoc hxk.out, List.map_append]; rfl)
      have hml1 : 1 ≤ maxLen := by unfold maxLen; omega
      have hmx : k + 1 ≤ maxLen := by unfold maxLen; omega
      have hby : (k + 1) * 8 ≤ 140737488355328 := by omega
      have hz := HE.out.size
      go_wp2_with (with_reducible refine stand_at 20 ?_)
      refine Stand.mk (wpList_app elInt rfl _ _ rfl w.heap.size u5 k _ rfl (HO.out.alloc _) _ 1 1 [.int .i64 (tf mask x)] rfl (Row.fresh _ 3 1 #[.int .i64 (tf mask x)] 1 rfl hml1) (ints_one [tf mask x]) hby hmx (by simp; omega) ?_)
      intro v' w1 HO1 HG1 _
      go_wp2
      go_roundg (gk - 1)
      case measure => omega
      case rel => exact ⟨k + 1, by omega, by go_num, by rw [HN.out, ints_append]; exact HO1.out, (HE.out.alloc _).grown HG1.out fun g hg => (HO.out.lt g hg).1⟩
    · obtain rfl : k = n := by omega
      have e1 : l.take k = l := List.take_of_length_le (by rw [HX.out.ints_len]; exact Nat.le_refl _)
      rw [e1] at HO
      go_wp2
      go_ret
      exact ⟨_, rfl, HO.out, HE.out⟩
end Go.Proofs.Ytaimljagflnfpaa
