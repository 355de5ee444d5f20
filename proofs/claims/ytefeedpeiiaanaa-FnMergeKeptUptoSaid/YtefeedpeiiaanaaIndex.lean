/- The contract of slices.Index at impl.itemHeap: the first place of an item. No statement of the seat is proved here. -/
import Derived.Test.YtefeedpeiiaanaaHeapOps
namespace Go.Proofs.Ytefeedpeiiaanaa
open Go.RowKit

/-- The first place of an item; -1 if it is not there. -/
def qidx (L : List (Int × Int)) (x : Int × Int) : Int := if x ∈ L then (L.idxOf x : Int) else -1
theorem idxOf_at {L : List (Int × Int)} {x : Int × Int} {k : Nat} (h : L[k]? = some x) (hn : x ∉ L.take k) : L.idxOf x = k := by
  induction L generalizing k with
  | nil => simp at h
  | cons y L ih =>
    cases k with
    | zero => simp at h; subst h; simp
    | succ k =>
      simp only [List.take_succ_cons, List.mem_cons, not_or] at hn
      have hb : (y == x) = false := by rw [beq_eq_false_iff_ne]; exact fun e => hn.1 e.symm
      rw [List.idxOf_cons, hb, ih (by simpa using h) hn.2]
      rfl
theorem qidx_at {L : List (Int × Int)} {x : Int × Int} {k : Nat} (h : L[k]? = some x) (hn : x ∉ L.take k) : (k : Int) = qidx L x := by
  rw [qidx, if_pos (List.mem_of_getElem? h), idxOf_at h hn]
theorem not_take_succ {L : List (Int × Int)} {x y : Int × Int} {k : Nat} (hn : x ∉ L.take k) (h : L[k]? = some y) (hne : x ≠ y) : x ∉ L.take (k + 1) := by
  rw [take_snoc h]
  simp only [List.mem_append, List.mem_singleton, not_or]
  exact ⟨hn, hne⟩

set_option maxRecDepth 100000 in
set_option maxHeartbeats 800000 in
theorem index_ok (A : Option Addr) (n c : Nat) (L : List (Int × Int)) (x1 x2 : Int) (w : World) (hx : Row w 2 A n c (its L)) :
    Calls Try.prog 29 #[.slice A n c, .agg #[.int .i64 x1, .int .i64 x2]] w fun e w' => e = .returned (.int .i64 (qidx L (x1, x2))) ∧ Ext w w' := by
  have hlim := hx.lim
  unfold maxLen at hlim
  have HL := Lib.hid hx.its_len
  have HX := Lib.hid hx
  obtain ⟨Z, hZ⟩ : ∃ Z, Z = qidx L (x1, x2) := ⟨_, rfl⟩
  rw [← hZ]
  have HZ := Lib.hid hZ
  clear hx hZ
  go_enter Try.func29, Try.ntmps29
  go_wp2
  have hE0 : Ext w (w.alloc (.cells #[.int .i64 x1, .int .i64 x2] 28)) := (Ext.refl w).alloc _
  have hb0 : (w.alloc (.cells #[.int .i64 x1, .int .i64 x2] 28)).heap[w.heap.size]? = some (.cells #[.int .i64 x1, .int .i64 x2] 28) := heap_alloc_new w _
  have HE0 := Lib.hid hE0
  have HB0 := Lib.hid hb0
  clear hE0 hb0
  generalize w.alloc (.cells #[.int .i64 x1, .int .i64 x2] 28) = w0 at HE0 HB0
  go_loopg [8] n (fun kx s wr => ∃ k : Nat, s = .int .i64 (k : Int) ∧ k + kx = n ∧ Hid ((x1, x2) ∉ L.take k) ∧ Hid (Ext w0 wr))
  case atStart => exact ⟨0, rfl, by omega, by unfold Hid; simp, Ext.refl _⟩
  case round =>
    obtain ⟨k, rfl, hk, HN, HE⟩ := hrel
    by_cases hlt : k < n
    · obtain ⟨b, o, y1, y2, rfl, hyk, hc1, hc2⟩ := (HX.out.ext (HE0.out.trans HE.out)).item_at (k := k) hlt
      have k1 := blk_ext HE.out HB0.out
      have d0 : wr.cell? ⟨w.heap.size, 0, none⟩ = some (.int .i64 x1) := by simp [World.cell?, k1]
      have d1 : wr.cell? ⟨w.heap.size, 1, none⟩ = some (.int .i64 x2) := by simp [World.cell?, k1]
      clear k1
      by_cases he : x1 = y1
      · subst he
        by_cases he2 : x2 = y2
        · subst he2
          have HQ := Lib.hid (qidx_at hyk.out HN.out)
          go_wp2
          go_region_held3 (fun w' => w'.cell? ⟨b, o + k * 2, none⟩ = some (.int .i64 x1) ∧ w'.cell? ⟨b, o + k * 2 + 1, none⟩ = some (.int .i64 x2) ∧ w'.cell? ⟨w.heap.size, 0, none⟩ = some (.int .i64 x1) ∧ w'.cell? ⟨w.heap.size, 1, none⟩ = some (.int .i64 x2)) (go_keep) (fail)
          go_wp2
          go_ret
          exact ⟨ret_int (by rw [HZ.out, HQ.out]), (HE0.out.trans HE.out).drew⟩
        · have HQ := Lib.hid (not_take_succ HN.out hyk.out (by simpa using he2))
          go_wp2
          go_region_held3 (fun w' => w'.cell? ⟨b, o + k * 2, none⟩ = some (.int .i64 x1) ∧ w'.cell? ⟨b, o + k * 2 + 1, none⟩ = some (.int .i64 y2) ∧ w'.cell? ⟨w.heap.size, 0, none⟩ = some (.int .i64 x1) ∧ w'.cell? ⟨w.heap.size, 1, none⟩ = some (.int .i64 x2)) (go_keep) (fail)
          go_wp2
          go_roundg (gk - 1)
          case measure => omega
          case rel => exact ⟨k + 1, by go_num, by omega, HQ.out, HE.out.drew⟩
      · have HQ := Lib.hid (not_take_succ HN.out hyk.out (by simp [he]))
        go_wp2
        go_region_held3 (fun w' => w'.cell? ⟨b, o + k * 2, none⟩ = some (.int .i64 y1) ∧ w'.cell? ⟨b, o + k * 2 + 1, none⟩ = some (.int .i64 y2) ∧ w'.cell? ⟨w.heap.size, 0, none⟩ = some (.int .i64 x1) ∧ w'.cell? ⟨w.heap.size, 1, none⟩ = some (.int .i64 x2)) (go_keep) (fail)
        go_wp2
        go_roundg (gk - 1)
        case measure => omega
        case rel => exact ⟨k + 1, by go_num, by omega, HQ.out, HE.out.drew⟩
    · obtain rfl : k = n := by omega
      have HQ : Hid (Z = -1) := by
        have h := HN.out
        rw [List.take_of_length_le (by rw [HL.out]; exact Nat.le_refl _)] at h
        unfold Hid
        rw [HZ.out, qidx, if_neg h]
      go_wp2
      go_ret
      exact ⟨ret_int (by rw [HQ.out]), HE0.out.trans HE.out⟩
end Go.Proofs.Ytefeedpeiiaanaa
