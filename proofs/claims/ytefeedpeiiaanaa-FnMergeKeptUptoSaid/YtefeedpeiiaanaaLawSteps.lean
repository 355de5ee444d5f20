/- The contract of laws.steps: it returns the steps of four lists. No statement of the seat is proved here. -/
import Derived.Test.YtefeedpeiiaanaaKeptAll
namespace Go.Proofs.Ytefeedpeiiaanaa
open Go.RowKit

def zip4 (ks xs ys ps : List Int) : List Stp := ks.zip ((xs.zip ys).zip ps)
theorem zip4_get {ks xs ys ps : List Int} {i : Nat} {a x y p : Int} (h1 : ks[i]? = some a) (h2 : xs[i]? = some x) (h3 : ys[i]? = some y) (h4 : ps[i]? = some p) : (zip4 ks xs ys ps)[i]? = some (a, (x, y), p) :=
  zip_get h1 (zip_get (zip_get h2 h3) h4)
theorem zip4_length (ks xs ys ps : List Int) : (zip4 ks xs ys ps).length = min ks.length (min (min xs.length ys.length) ps.length) := by simp [zip4]

theorem run_min4 (P : Program) (w : World) (ts : Array TypeId) (t : TypeId) (a b c d Z : Nat) (h : Z = min a (min (min b c) d)) : (Builtin.min_ ts t #[.int .i64 (a : Int), .int .i64 (b : Int), .int .i64 (c : Int), .int .i64 (d : Int)]).run P w = .ok (.int .i64 (Z : Int)) w := by
  subst h
  simp [Builtin.min_, Builtin.min2]
  omega

set_option maxRecDepth 100000 in
set_option maxHeartbeats 1600000 in
theorem steps_ok (A1 A2 A3 A4 : Option Addr) (n1 n2 n3 n4 c1 c2 c3 c4 : Nat) (ks xs ys ps : List Int) (w : World) (h1 : Row w 1 A1 n1 c1 (ints ks)) (h2 : Row w 1 A2 n2 c2 (ints xs)) (h3 : Row w 1 A3 n3 c3 (ints ys)) (h4 : Row w 1 A4 n4 c4 (ints ps)) (hs : n1 ≤ 1099511627776) :
    Calls Try.prog 17 #[.slice A1 n1 c1, .slice A2 n2 c2, .slice A3 n3 c3, .slice A4 n4 c4] w fun e w' => ∃ C k, e = .returned (.slice C (zip4 ks xs ys ps).length k) ∧ Row w' 4 C (zip4 ks xs ys ps).length k (sts (zip4 ks xs ys ps)) ∧ Ext w w' := by
  have hl1 := h1.lim
  have hl2 := h2.lim
  have hl3 := h3.lim
  have hl4 := h4.lim
  unfold maxLen at hl1 hl2 hl3 hl4
  have hzl := zip4_length ks xs ys ps
  rw [h1.ints_len, h2.ints_len, h3.ints_len, h4.ints_len] at hzl
  obtain ⟨Z, hZ⟩ : ∃ Z, Z = (zip4 ks xs ys ps).length := ⟨_, rfl⟩
  rw [← hZ] at hzl ⊢
  have HZ := Lib.hid hZ
  clear hZ
  have H1 := Lib.hid h1
  have H2 := Lib.hid h2
  have H3 := Lib.hid h3
  have H4 := Lib.hid h4
  clear h1 h2 h3 h4
  have hm4 : ∀ (w : World) (ts : Array TypeId) (t : TypeId), (Builtin.min_ ts t #[.int .i64 (n1 : Int), .int .i64 (n2 : Int), .int .i64 (n3 : Int), .int .i64 (n4 : Int)]).run Try.prog w = .ok (.int .i64 (Z : Int)) w := fun w ts t => run_min4 _ _ _ _ _ _ _ _ _ hzl
  go_enter Try.func17, Try.ntmps17
  go_wp2
  go_loopw [9, 10] (fun v i wr => ∃ k : Nat, k ≤ Z ∧ i = .int .i64 k ∧ wr.ownsRow w.heap.size 30 4 v k (sts ((zip4 ks xs ys ps).take k)) ∧ Ext w wr) (fun _ i _ => Z - (intOf i).toNat)
  case atStart => exact ⟨0, Nat.zero_le _, rfl, own_lit0 _ _ _, (Ext.refl w).alloc _⟩
  case round =>
    obtain ⟨k, hk, rfl, hown, hext⟩ := hrel
    have hz := hext.size
    have HO := Lib.hid hown
    have HE := Lib.hid hext
    clear hown hext
    by_cases hlt : k < Z
    · obtain ⟨b1, o1, x1, rfl, hx1, hw1⟩ := H1.out.int_at (k := k) (by omega)
      obtain ⟨b2, o2, x2, rfl, hx2, hw2⟩ := H2.out.int_at (k := k) (by omega)
      obtain ⟨b3, o3, x3, rfl, hx3, hw3⟩ := H3.out.int_at (k := k) (by omega)
      obtain ⟨b4, o4, x4, rfl, hx4, hw4⟩ := H4.out.int_at (k := k) (by omega)
      have HN := Lib.hid (take_snoc (zip4_get hx1.out hx2.out hx3.out hx4.out))
      have hc1 := HE.out.cell_some hw1
      have HW1 := Lib.hid hw1
      clear hw1
      have hc2 := HE.out.cell_some hw2
      have HW2 := Lib.hid hw2
      clear hw2
      have hc3 := HE.out.cell_some hw3
      have HW3 := Lib.hid hw3
      clear hw3
      have hc4 := HE.out.cell_some hw4
      have HW4 := Lib.hid hw4
      clear hw4
      have hml1 : 1 ≤ maxLen := by unfold maxLen; omega
      have hmx : k + 1 ≤ maxLen := by unfold maxLen; omega
      have hby : (k + 1) * 32 ≤ 140737488355328 := by omega
      have hone := sts_one [(x1, (x2, x3), x4)]
      have : k < n1 := by omega
      have : k < n2 := by omega
      have : k < n3 := by omega
      have : k < n4 := by omega
      go_wp2
      go_region_held3 (fun w' => w'.cell? ⟨b1, o1 + k, none⟩ = some (.int .i64 x1) ∧ w'.cell? ⟨b2, o2 + k, none⟩ = some (.int .i64 x2) ∧ w'.cell? ⟨b3, o3 + k, none⟩ = some (.int .i64 x3) ∧ w'.cell? ⟨b4, o4 + k, none⟩ = some (.int .i64 x4))
        (first | go_keep | (have hx1 : Ext w w1 := (HE.out.drew.alloc _).grown HG1.out fun g hg => (HO.out.lt g hg).1; exact ⟨hx1.cell_some HW1.out, hx1.cell_some HW2.out, hx1.cell_some HW3.out, hx1.cell_some HW4.out⟩))
        ((refine step_app elStep rfl (.tmp 25) (.tmp 44) rfl w.heap.size u9 k _ rfl (own_ext HO.out ((Ext.refl wr).drew.alloc _)) (some ⟨wr.heap.size, 0, none⟩) 1 1 [.int .i64 x1, .int .i64 x2, .int .i64 x3, .int .i64 x4] rfl (Row.fresh _ 30 4 #[.int .i64 x1, .int .i64 x2, .int .i64 x3, .int .i64 x4] 1 rfl hml1) hone hby hmx (by simp; omega) ?_; intro v' w1 HO1 HG1 _))
      go_wp2
      go_roundw
      case rel =>
        exact ⟨k + 1, by omega, by go_num, by rw [HN.out, sts_append]; exact HO1.out, (HE.out.drew.alloc _).grown HG1.out fun g hg => (HO.out.lt g hg).1⟩
      case measure => simp [intOf]; omega
    · obtain rfl : k = Z := by omega
      go_wp2
      go_ret
      obtain ⟨C, q, rfl, hr⟩ := own_form HO.out
      refine ⟨C, q, rfl, ?_, HE.out⟩
      rw [List.take_of_length_le (by rw [HZ.out]; omega)] at hr
      exact hr
end Go.Proofs.Ytefeedpeiiaanaa
