/- The walk of laws.FnKeptIsEdits: it returns true. The statement itself stands in the next file. -/
import Derived.Test.YtecjkonjgmjppaaIsEditsPlain
import Derived.Test.YtecjkonjgmjppaaSortedIts
import Derived.Test.YtecjkonjgmjppaaScript2
namespace Go.Proofs.Ytecjkonjgmjppaa
open Go.RowKit

/-- A list of zeros that make lays. -/
theorem makeZ (w : World) (n : Nat) (hc : n ≤ 4398046511104) :
    ∃ cur : List Value, cur = ints (List.replicate n 0) ∧ (Instr.makeSlice 22 (.int .i64 (n : Int)) (.int .i64 (n : Int))).run Try.prog w = .ok (.slice (some ⟨w.heap.size, 0, none⟩) n n) (w.alloc (.cells cur.toArray 3)) := by
  obtain ⟨ht, ⟨i, z, hi, hz, hs, hby, hzs⟩, hpos⟩ := elInt
  have hr := run_make (P := Try.prog) w 22 3 i z ht hi hz .i64 .i64 (n : Int) (n : Int) (by omega) (by omega) (by rw [hby]; omega) (by omega)
  have hz0 : z = .int .i64 0 := by
    have h : (Try.prog.info? 3).map (fun i => i.zero) = some (some (.int .i64 0)) := by kernel_rfl
    rw [hi] at h
    simp only [Option.map_some, Option.some.injEq] at h
    rw [hz] at h
    injection h
  rw [Int.toNat_natCast, hs, Nat.mul_one] at hr
  refine ⟨(madeCells z.cells n).toList, ?_, by rw [hr]⟩
  subst hz0
  refine List.ext_getElem (by simp [size_madeCells, ints]) fun k h1 h2 => ?_
  simp [madeCells, Value.cells, ints, Nat.mod_one]

theorem field_found (w : World) (i : Int) (is : Bool) (v : Value) : (Instr.field 34 (.agg #[.int .i64 i, .bool is, v]) 0).run Try.prog w = .ok (.int .i64 i) w := by kernel_rfl

set_option maxRecDepth 100000 in
set_option maxHeartbeats 3200000 in
theorem fnKeptIsEdits_ok (A : Option Addr) (n c : Nat) (xs : List Int) (key : Int) (w : World) (hx : Row w 1 A n c (ints xs)) (hs : n ≤ 1048576) :
    Calls Try.prog 3 #[.slice A n c, .int .i64 key] w fun e w' => e = .returned (.bool true) ∧ Ext w w' := by
  obtain ⟨cur, hcur, hmk⟩ := makeZ w n (by omega)
  have hr0 : Row (w.alloc (.cells cur.toArray 3)) 1 (some ⟨w.heap.size, 0, none⟩) n n (ints (List.replicate n 0)) := by
    have h := Row.fresh w 3 1 cur.toArray n (by rw [hcur]; simp [ints]) (by unfold maxLen; omega)
    rw [hcur] at h ⊢
    exact h
  have hx0 : Ext w (w.alloc (.cells cur.toArray 3)) := (Ext.refl w).alloc _
  have HX := Lib.hid (hx.ext hx0)
  have HR0 := Lib.hid hr0
  have HX0 := Lib.hid hx0
  clear hx hr0 hx0 hcur
  go_enter Try.func3, Try.ntmps3
  go_wp2_with fail
  generalize w.alloc (.cells cur.toArray 3) = w0 at HX HR0 HX0 ⊢
  clear hmk
  refine (items_ok _ _ _ _ _ _ _ _ _ HX.out HR0.out (by omega)).mono ?_
  rw [Nat.min_self]
  rintro e w1 ⟨C1, k1, rfl, hr1, he1⟩
  have HR1 := Lib.hid hr1
  have HE1 := Lib.hid (HX0.out.trans he1)
  clear hr1 he1
  go_wp2_with fail
  refine (sorted_ok _ _ _ _ _ HR1.out (by omega)).mono ?_
  rintro e w2 ⟨C2, k2, rfl, hr2, he2⟩
  have HO := Lib.hid (sortP_ord (xs.zip (List.replicate n 0)))
  have HZ := Lib.hid (zip_zeros (xs := xs) (n := n))
  generalize sortP (xs.zip (List.replicate n 0)) = S at hr2 HO HZ
  have HR2 := Lib.hid hr2
  have HE2 := Lib.hid (HE1.out.trans he2)
  have HL := Lib.hid hr2.its_len
  clear hr2 he2
  have hml2 : 2 ≤ maxLen := by unfold maxLen; omega
  go_wp2_with fail
  refine (keptAll_ok C2 (some ⟨w2.heap.size + 1, 0, none⟩) n 2 k2 2 S [(0, (key, 0), 0), (2, (key, 0), 0)] _ ((HR2.out.alloc _).alloc _) (Row.fresh' (w2.alloc (.cells #[.int .i64 key, .int .i64 0] 27)) _ 4 #[.int .i64 0, .int .i64 key, .int .i64 0, .int .i64 0, .int .i64 2, .int .i64 key, .int .i64 0, .int .i64 0] 2 _ (by simp) rfl hml2) (by omega) (by omega)).mono ?_
  rintro e w3 ⟨B3, q3, rfl, hr3, he3⟩
  have he3' : Ext w2 w3 := (((Ext.refl w2).alloc _).alloc _).trans he3
  have HR3 := Lib.hid hr3
  have HR2b := Lib.hid (HR2.out.ext he3')
  have HE3 := Lib.hid (HE2.out.trans he3')
  clear hr3 he3 he3' HR2
  go_wp2_with fail
  refine (search_ok C2 n k2 S key w3 HR2b.out HO.out (by omega)).mono ?_
  rintro e w4 ⟨i, is, k, B, q, rfl, hf, he4⟩
  have HF := Lib.hid hf
  have HE4 := Lib.hid he4
  have hin := hf.1
  have hfd := field_found w4 i is (.slice B k q)
  clear hf he4
  go_wp2_with fail
  refine (apart_ok C2 n k2 S w4 (HR2b.out.ext HE4.out) (by omega)).mono ?_
  rintro e w5 ⟨C5, k5, D5, q5, rfl, hr5, -, he5⟩
  have HR5 := Lib.hid hr5
  have HE5 := Lib.hid (HE4.out.trans he5)
  clear hr5 he5
  have hml1 : 1 ≤ maxLen := by unfold maxLen; omega
  have hew : Edts ((w5.alloc (.cells #[.int .i64 key] 3)).alloc (.cells #[.int .i64 0, .int .i64 (i : Int), .int .i64 0, .slice (some ⟨w5.heap.size, 0, none⟩) 1 1, .int .i64 1, .int .i64 (i : Int), .int .i64 ((i : Int) + 1), .slice none 0 0] 41)) (some ⟨w5.heap.size + 1, 0, none⟩) 2 2 [(0, (i : Int), 0, [key]), (1, (i : Int), (i : Int) + 1, [])] :=
    edts_two _ _ (by simp) 0 i 0 1 i (i + 1) [key] [] (some ⟨w5.heap.size, 0, none⟩) none 1 0 1 0 (Row.fresh' w5 _ 1 #[.int .i64 key] 1 _ rfl rfl hml1) (Row.nil _ _)
  have HEW := Lib.hid hew
  clear hew
  have sw : IntKind.i64.wrap ((i : Int) + 1) = (i : Int) + 1 := IntWalk.i64_in _ (by omega)
  go_wp2_with fail
  refine (editsAll_ok C5 (some ⟨w5.heap.size + 1, 0, none⟩) n 2 k5 2 (S.map (·.1)) 0 0 _ _ ((HR5.out.alloc _).alloc _) HEW.out (by decide) (by simp [evals]; omega) (by omega)).mono ?_
  rintro e w6 ⟨B6, q6, D6, rfl, hd6, hm6, -, he6⟩
  have HD6 := Lib.hid hd6
  have HM6 := Lib.hid hm6
  have HE6 := Lib.hid (HE5.out.trans ((((Ext.refl w5).alloc _).alloc _).trans he6))
  clear hd6 hm6 he6 sw HEW
  go_wp2
  go_loopg [60] 2 (fun kx s wr => ∃ j : Nat, s = .int .i64 (j : Int) ∧ j + kx = 2 ∧ Hid (Ext w6 wr))
  case atStart => exact ⟨0, rfl, by omega, Ext.refl _⟩
  case round =>
    obtain ⟨j, rfl, hjk, HE⟩ := hrel
    by_cases hj : j < 2
    · obtain ⟨b, o, ik, x1, x2, l, Bk, qk, rfl, hdk, -, -, -, a3, HRk⟩ := ((HR3.out.ext HE6.out).ext HE.out).at_ (k := j + 1) (by omega)
      obtain ⟨b', o', p, l', sm', B', q', rfl, hd', c0, c1, -, hrow⟩ := erows_at (Recs.ext HD6.out HE.out) (k := j) (by omega)
      have hm := congrArg (fun t => t[j]?) HM6.out
      simp only [List.getElem?_map, hd'.out, Option.map_some] at hm
      obtain ⟨rfl, hmap, hlen⟩ := isEdits_round HL.out HO.out HZ.out HF.out 0 hdk.out hm.symm
      have hll : l'.length = l.length := by rw [← hmap, List.length_map]
      obtain ⟨N, hN⟩ : ∃ N, N = l.length := ⟨_, rfl⟩
      rw [hll, ← hN] at c1 hrow
      rw [← hN] at a3 HRk hlen
      have HMAP := Lib.hid hmap
      have hNn : N ≤ n + 1 := by omega
      have sb : ((N : Int) != (n : Int) + 1 - (j : Int)) = false := by simp; omega
      have sn : (0 : Int) ≤ (j : Int) + 1 := by omega
      have sl : (j : Int) + 1 < 3 := by omega
      have st : ((j : Int) + 1).toNat = j + 1 := by omega
      have sm : j + 1 < 3 := by omega
      have sl2 : (j : Int) < 2 := by omega
      clear hm hmap hll hN hlen hdk hd'
      go_wp2_with fail
      refine (apart_ok Bk N qk l _ HRk.out (by omega)).mono ?_
      rintro e w7 ⟨C7, k7, D7, q7, rfl, hr7, -, he7⟩
      rw [HMAP.out] at hr7
      have HR7 := Lib.hid hr7
      have HE7 := Lib.hid he7
      have c0' := he7.cell_some c0
      have c1' := he7.cell_some c1
      clear hr7 he7 a3 c0 c1
      go_wp2_with fail
      refine (same_true C7 B' N N k7 q' l' w7 HR7.out (hrow.out.ext HE7.out)).mono ?_
      rintro e w8 ⟨rfl, he8⟩
      have HE8 := Lib.hid he8
      clear he8
      go_wp2
      go_roundg (gk - 1)
      case measure => omega
      case rel => exact ⟨j + 1, by go_num, by omega, HE.out.trans (HE7.out.trans HE8.out)⟩
    · obtain rfl : j = 2 := by omega
      go_wp2
      go_ret
      exact ⟨rfl, HE3.out.trans (HE6.out.trans HE.out)⟩
end Go.Proofs.Ytecjkonjgmjppaa
