/- The contract of laws.apart: the keys and the tags of items. No statement of the seat is proved here. -/
import Derived.Test.YtefeedpeiiaanaaPart
namespace Go.Proofs.Ytefeedpeiiaanaa
open Go.RowKit

theorem own_lit1 (w : World) (e : TypeId) (sz : Nat) : ((w.alloc (.cells #[] e)).alloc (.cells #[] e)).ownsRow w.heap.size e sz (.slice (some ⟨w.heap.size + 1, 0, none⟩) 0 0) 0 [] := by
  have h := World.ownsRow_made (e := e) (size := sz) (base := w.heap.size) (w.alloc (.cells #[] e)) #[] 0 (by simp) (Nat.zero_le _) (by simp)
  simpa using h

/-- Two rows of the call's own, one grown behind the other: the first one is still there, and they lie apart. -/
theorem two_rows {w0 wa w1 wb w2 : World} {base : Nat} {e : TypeId} {sz n : Nat} {u v u1 v1 : Value} {xs : List Value} (hv : ∀ g, v.ownBlock = some g → g < w0.heap.size) (h0 : w0.heap.size ≤ wa.heap.size)
    (hne : u.ownBlock ≠ v.ownBlock) (h1 : w1.ownsRow base e sz u1 n xs) (g1 : wa.grownBy w1 u.ownBlock) (l1 : u1.ownBlock = u.ownBlock ∨ u1.ownBlock = some wa.heap.size) (hb : Ext w1 wb)
    (g2 : wb.grownBy w2 v.ownBlock) (l2 : v1.ownBlock = v.ownBlock ∨ v1.ownBlock = some wb.heap.size) :
    w2.ownsRow base e sz u1 n xs ∧ u1.ownBlock ≠ v1.ownBlock := by
  have hb1 : wb.ownsRow base e sz u1 n xs := by
    have hg : w1.grownBy wb none := by
      have h' : Below w1.heap.size w1 wb := hb
      exact ⟨h'.os, h'.tape, h'.output, h'.size, fun k hk _ => h'.block k hk⟩
    by_cases e1 : u1.ownBlock = none
    · exact h1.kept hg (.inl e1)
    · exact h1.kept hg (.inr e1)
  have s1 := g1.size
  have s2 := hb.size
  have hn1 : u1.ownBlock ≠ v.ownBlock := by
    rcases l1 with l | l
    · rw [l]; exact hne
    · rw [l]; intro hh; have := hv _ hh.symm; omega
  refine ⟨hb1.kept g2 (.inr hn1), ?_⟩
  rcases l2 with l | l
  · rw [l]; exact hn1
  · rw [l]; intro hh
    have := (h1.lt _ hh).2
    omega

theorem rows_end {w w0 wa w1 wb w2 wf : World} {e : TypeId} {sz n m : Nat} {u v u1 v1 : Value} {xs ys : List Value} (hu : ∀ g, u.ownBlock = some g → w.heap.size ≤ g ∧ g < w0.heap.size) (hv : ∀ g, v.ownBlock = some g → w.heap.size ≤ g ∧ g < w0.heap.size)
    (hne : u.ownBlock ≠ v.ownBlock) (h1 : w1.ownsRow w.heap.size e sz u1 n xs) (g1 : wa.grownBy w1 u.ownBlock) (l1 : u1.ownBlock = u.ownBlock ∨ u1.ownBlock = some wa.heap.size)
    (h2 : w2.ownsRow w.heap.size e sz v1 m ys) (g2 : wb.grownBy w2 v.ownBlock) (l2 : v1.ownBlock = v.ownBlock ∨ v1.ownBlock = some wb.heap.size) (hw : Ext w w0)
    (hb : (Ext w0 wa ∧ Ext w1 wb ∧ wf = w2) ∨ (Ext w0 wb ∧ Ext w2 wa ∧ wf = w1)) :
    wf.ownsRow w.heap.size e sz u1 n xs ∧ wf.ownsRow w.heap.size e sz v1 m ys ∧ Hid (u1.ownBlock ≠ v1.ownBlock) ∧ Ext w wf := by
  rcases hb with ⟨ha, hb, rfl⟩ | ⟨ha, hb, rfl⟩
  · obtain ⟨a, b⟩ := two_rows (fun g hg => (hv g hg).2) ha.size hne h1 g1 l1 hb g2 l2
    exact ⟨a, h2, b, ((hw.trans ha).grown g1 fun g hg => (hu g hg).1).trans hb |>.grown g2 fun g hg => (hv g hg).1⟩
  · obtain ⟨a, b⟩ := two_rows (fun g hg => (hu g hg).2) ha.size (Ne.symm hne) h2 g2 l2 hb g1 l1
    exact ⟨h1, a, Ne.symm b, ((hw.trans ha).grown g2 fun g hg => (hv g hg).1).trans hb |>.grown g1 fun g hg => (hu g hg).1⟩

set_option maxHeartbeats 1600000 in
theorem apart_ok (A : Option Addr) (n c : Nat) (xs : List (Int × Int)) (w : World) (hx : Row w 2 A n c (its xs)) (hs : n ≤ 1099511627776) :
    Calls Try.prog 26 #[.slice A n c] w fun e w' => ∃ C k D q, e = .returned (.tuple #[.slice C n k, .slice D n q]) ∧ Row w' 1 C n k (ints (xs.map (·.1))) ∧ Row w' 1 D n q (ints (xs.map (·.2))) ∧ Ext w w' := by
  have HX := Lib.hid hx
  clear hx
  go_enter Try.func26, Try.ntmps26
  go_wp2
  go_loopw [4, 5, 12] (fun v u i wr => ∃ k : Nat, k ≤ n ∧ i = .int .i64 k ∧ wr.ownsRow w.heap.size 3 1 v k (ints ((xs.take k).map (·.1))) ∧ wr.ownsRow w.heap.size 3 1 u k (ints ((xs.take k).map (·.2))) ∧ Hid (v.ownBlock ≠ u.ownBlock) ∧ Ext w wr) (fun _ _ i _ => n - (intOf i).toNat)
  case atStart => exact ⟨0, Nat.zero_le _, rfl, (own_lit0 _ _ _).alloc _, own_lit1 _ _ _, (by simp [Value.ownBlock] : Value.ownBlock _ ≠ Value.ownBlock _), ((Ext.refl w).alloc _).alloc _⟩
  case round =>
    obtain ⟨k, hk, rfl, hown, hown2, HNE, hext⟩ := hrel
    have hz := hext.size
    have HO := Lib.hid hown
    have HP := Lib.hid hown2
    have HE := Lib.hid hext
    clear hown hext hown2
    by_cases hlt : k < n
    · obtain ⟨b, o, x, y, rfl, hxk, hcx, hcy⟩ := (HX.out.ext HE.out).item_at (k := k) (by omega)
      have HN := Lib.hid (take_snoc hxk.out)
      have hml1 : 1 ≤ maxLen := by unfold maxLen; omega
      have hmx : k + 1 ≤ maxLen := by unfold maxLen; omega
      have hby : (k + 1) * 8 ≤ 140737488355328 := by omega
      have hone := ints_one [x]
      have hone2 := ints_one [y]
      have HB1 : Hid (∀ B, wr.heap.size ≤ B → some B ≠ u4.ownBlock) := fun B hB e => by have := (HO.out.lt B e.symm).2; omega
      have HB2 : Hid (∀ B, wr.heap.size ≤ B → some B ≠ u5.ownBlock) := fun B hB e => by have := (HP.out.lt B e.symm).2; omega
      go_wp2
      go_region_law (first | (refine step_app elInt rfl (.tmp 16) (.tmp 19) rfl w.heap.size u4 k (ints ((xs.take k).map (·.1))) rfl (by repeat (first | (with_reducible exact HO.out) | (with_reducible refine World.ownsRow.drew ?_) | (with_reducible refine World.ownsRow.alloc ?_ _) | (with_reducible refine World.ownsRow.kept ?_ HG2.out (.inr HNE.out)))) _ 1 1 [.int .i64 x] rfl (by repeat (first | (with_reducible refine Row.drew ?_) | (refine Row.fresh' _ _ _ #[.int .i64 x] _ _ ?_ rfl hml1; simp; done) | (with_reducible refine Row.alloc ?_ _) | ((with_reducible refine Row.grownBy ?_ HG2.out ?_); rotate_left; (exact HB2.out _ (by omega))))) hone hby hmx (by first | (simp; omega) | (have := HG2.out.size; simp at this ⊢; omega)) ?_; intro v1 w1 HO1 HG1 HL1; have hcy1 : w1.cell? ⟨wr.heap.size, 1, none⟩ = some (.int .i64 y) := HG1.out.cell (by first | (go_simp; done) | (repeat (first | assumption | (with_reducible refine cell_drew ?_) | (with_reducible refine cell_alloc_some ?_ _)))) (HB1.out _ (Nat.le_refl _)); have hcx1 : w1.cell? ⟨wr.heap.size, 0, none⟩ = some (.int .i64 x) := HG1.out.cell (by first | (go_simp; done) | (repeat (first | assumption | (with_reducible refine cell_drew ?_) | (with_reducible refine cell_alloc_some ?_ _)))) (HB1.out _ (Nat.le_refl _)); have hsz1 : wr.heap.size + 1 ≤ w1.heap.size := by (have := HG1.out.size; first | (simp at this; omega) | omega)) | (refine step_app elInt rfl (.tmp 21) (.tmp 24) rfl w.heap.size u5 k (ints ((xs.take k).map (·.2))) rfl (by repeat (first | (with_reducible exact HP.out) | (with_reducible refine World.ownsRow.drew ?_) | (with_reducible refine World.ownsRow.alloc ?_ _) | (with_reducible refine World.ownsRow.kept ?_ HG1.out (.inr (Ne.symm HNE.out))))) _ 1 1 [.int .i64 y] rfl (by repeat (first | (with_reducible refine Row.drew ?_) | (refine Row.fresh' _ _ _ #[.int .i64 y] _ _ ?_ rfl hml1; simp; done) | (with_reducible refine Row.alloc ?_ _) | ((with_reducible refine Row.grownBy ?_ HG1.out ?_); rotate_left; (exact HB1.out _ (by omega))))) hone2 hby hmx (by first | (simp; omega) | (have := HG1.out.size; simp at this ⊢; omega)) ?_; intro v2 w2 HO2 HG2 HL2; have hcx2 : w2.cell? ⟨wr.heap.size, 0, none⟩ = some (.int .i64 x) := HG2.out.cell (by first | (go_simp; done) | (repeat (first | assumption | (with_reducible refine cell_drew ?_) | (with_reducible refine cell_alloc_some ?_ _)))) (HB2.out _ (Nat.le_refl _)); have hcy2 : w2.cell? ⟨wr.heap.size, 1, none⟩ = some (.int .i64 y) := HG2.out.cell (by first | (go_simp; done) | (repeat (first | assumption | (with_reducible refine cell_drew ?_) | (with_reducible refine cell_alloc_some ?_ _)))) (HB2.out _ (Nat.le_refl _)); have hsz2 : wr.heap.size + 1 ≤ w2.heap.size := by (have := HG2.out.size; first | (simp at this; omega) | omega)))
      all_goals
        go_wp2
        go_roundw
        case rel =>
          refine ⟨k + 1, by omega, by go_num, ?_⟩
          rw [HN.out, List.map_append, ints_append, List.map_append, ints_append]
          refine rows_end (w0 := wr) (u := u4) (v := u5) (fun g hg => HO.out.lt g hg) (fun g hg => HP.out.lt g hg) HNE.out HO1.out HG1.out HL1.out HO2.out HG2.out HL2.out HE.out ?_
          first
          | (refine .inl ⟨?_, ?_, rfl⟩ <;> (repeat (first | (with_reducible exact Ext.refl _) | (with_reducible refine Ext.drew ?_) | (with_reducible refine Ext.alloc ?_ _))); done)
          | (refine .inr ⟨?_, ?_, rfl⟩ <;> (repeat (first | (with_reducible exact Ext.refl _) | (with_reducible refine Ext.drew ?_) | (with_reducible refine Ext.alloc ?_ _))); done)
        case measure => simp [intOf]; omega
    · go_wp2
      go_ret2
      obtain rfl : k = n := by omega
      have e : xs.take k = xs := List.take_of_length_le (by rw [HX.out.its_len]; omega)
      obtain ⟨C, q, rfl, hr⟩ := own_form HO.out
      obtain ⟨D, q2, rfl, hr2⟩ := own_form HP.out
      rw [e] at hr hr2
      exact ⟨C, q, D, q2, rfl, hr, hr2, HE.out⟩
end Go.Proofs.Ytefeedpeiiaanaa
