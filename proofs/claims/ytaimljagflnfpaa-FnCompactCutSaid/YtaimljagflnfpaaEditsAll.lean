/- The contract of impl.Edits: the rows of a script of edits, by its definition. No statement of the seat is proved here. -/
import Derived.Test.YtaimljagflnfpaaEdited
import Derived.Test.YtaimljagflnfpaaRecs
import Derived.Deep.LoopGhost
import Derived.LaidEqlPtr
namespace Go.Proofs.Ytaimljagflnfpaa


open Go.RowKit

theorem make1 (w : World) (l r : Nat) (hc : l + r ≤ 35184372088832) :
    ∃ cur : List Value, cur.length = l + r ∧ (Instr.makeSlice 22 (.int .i64 (l : Int)) (.int .i64 ((l : Int) + (r : Int)))).run Try.prog w = .ok (.slice (some ⟨w.heap.size, 0, none⟩) l (l + r)) (w.alloc (.cells cur.toArray 3)) := by
  obtain ⟨ht, ⟨i, z, hi, hz, hs, hby, hzs⟩, hpos⟩ := elInt
  have hr := run_make (P := Try.prog) w 22 3 i z ht hi hz .i64 .i64 (l : Int) ((l : Int) + (r : Int)) (by omega) (by omega) (by rw [hby]; omega) (by omega)
  have e1 : ((l : Int) + (r : Int)).toNat = l + r := by omega
  rw [e1, Int.toNat_natCast, hs, Nat.mul_one] at hr
  exact ⟨(madeCells z.cells (l + r)).toList, by simp [size_madeCells], by rw [hr]⟩

/-- What the flag 'same' of a row says. -/
def Flag (l : List Int) (e : Edt) (room : Prop) (d : ERow) : Prop := d.1 = false → l ≠ [] → d.2.1 ≠ [] → (Stays e room → d.2.2 = true) ∧ (e.1 = 4 → d.2.2 = false)
def Flags (xs : List Int) (R : Nat) (E : List Edt) (D : List ERow) : Prop := ∀ (i : Nat) (d : ERow) (e : Edt), D[i]? = some d → E[i]? = some e → Flag (eend xs (E.take i)) e (i = 0 ∧ e.2.2.2.length ≤ R) d
theorem Stays.imp {e : Edt} {p q : Prop} (h : p → q) (hs : Stays e p) : Stays e q := by
  rcases hs with a | a | a | a
  · exact .inl a
  · exact .inr (.inl a)
  · exact .inr (.inr (.inl a))
  · exact .inr (.inr (.inr ⟨a.1, h a.2⟩))
theorem flags_snoc {xs : List Int} {R : Nat} {E : List Edt} {D : List ERow} {j : Nat} {e : Edt} {l : List Int} {d : ERow} (h : Flags xs R E D) (hD : D.length = j) (he : E[j]? = some e) (hl : l = eend xs (E.take j)) (hd : Flag l e (j = 0 ∧ e.2.2.2.length ≤ R) d) : Flags xs R E (D ++ [d]) := by
  intro i d' e' hd' he'
  rcases Nat.lt_or_ge i D.length with hi | hi
  · rw [List.getElem?_append_left hi] at hd'
    exact h i d' e' hd' he'
  · rw [List.getElem?_append_right hi] at hd'
    have hi0 : i = j := by
      rcases Nat.eq_or_lt_of_le hi with e | e
      · omega
      · rw [List.getElem?_eq_none (by simp; omega)] at hd'; cases hd'
    subst hi0
    rw [hD, Nat.sub_self] at hd'
    simp at hd'
    subst hd'
    rw [he] at he'
    injection he' with he'
    subst he' hl
    exact hd
/-- In the loop of impl.Edits: the list v, and the rows u that have been told. -/
def EInv (w wr : World) (v : Value) (l : List Int) (u : Value) (D : List ERow) : Prop :=
  wr.ownsRow w.heap.size 3 1 v l.length (ints l) ∧ Ext w wr ∧ OwnERows wr w.heap.size v.ownBlock u D
theorem EInv.ext {w wr w1 : World} {v u : Value} {l : List Int} {D : List ERow} (h : EInv w wr v l u D) (hx : Ext wr w1) : EInv w w1 v l u D :=
  ⟨own_ext h.1 hx, h.2.1.trans hx, OwnRecs.ext h.2.2 hx⟩
theorem EInv.edit {w wr w1 : World} {v v' u : Value} {l l' : List Int} {D : List ERow} (h : EInv w wr v l u D) (h1 : w1.ownsRow w.heap.size 3 1 v' l'.length (ints l')) (h2 : wr.grownBy w1 v.ownBlock) (h3 : v'.ownBlock = v.ownBlock ∨ (∀ g, v'.ownBlock = some g → wr.heap.size ≤ g) ∧ OldKept w1 v) : EInv w w1 v' l' u D := by
  obtain ⟨k1, k2, k3⟩ := h
  refine ⟨h1, k2.grown h2 fun g hg => (k1.lt g hg).1, ?_⟩
  obtain ⟨vs, k4, k5, k6⟩ := k3
  refine OwnRecs.keep ⟨vs, k4, k5, k6⟩ h2 (own_own_ne k5 k1 (by decide)) (fun b cs _ hh => hh) ?_
  rcases h3 with h | h
  · exact .inl h
  · exact .inr h.1
theorem EInv.push {w wr w2 w3 : World} {v u u' : Value} {l : List Int} {D : List ERow} {p s : Bool} {A : Option Addr} {c base : Nat} (h : EInv w wr v l u D) (hx : Ext wr w2) (hc : w2.ownsRow base 3 1 (.slice A l.length c) l.length (ints l)) (hcb : wr.heap.size ≤ base)
    (hg : w2.grownBy w3 u.ownBlock) (ho : ∀ vs : List Value, vs.length = D.length → w2.ownsRow w.heap.size 41 3 u D.length (recCells rcell D vs) → w3.ownsRow w.heap.size 41 3 u' (D.length + 1) (recCells rcell D vs ++ rcell (p, l, s) (.slice A l.length c))) :
    EInv w w3 v l u' (D ++ [(p, l, s)]) := by
  obtain ⟨k1, k2, k3⟩ := h
  have k3' := k3
  obtain ⟨vs, k4, k5, k6⟩ := k3'
  have k5' := own_ext k5 hx
  have k1' := own_ext k1 hx
  refine ⟨k1'.kept hg (own_own_ne k1' k5' (by decide)), (k2.trans hx).grown hg fun g hg => (k5'.lt g hg).1, ?_⟩
  refine OwnRecs.push (d := (p, l, s)) k3 (by decide) hx (OffI.own hc ?_) hg ho
  cases A with
  | none => exact .inr rfl
  | some a =>
    refine .inl fun e => ?_
    have e1 := (hc.lt a.block rfl).1
    have e2 := (k1.lt a.block e).2
    omega

theorem run_max0 (P : Program) (w : World) (ts : Array TypeId) (t : TypeId) (a Z : Int) (h : Z = max a 0) : (Builtin.max_ ts t #[.int .i64 a, .int .i64 0]).run P w = .ok (.int .i64 Z) w := by
  have e : (if 0 > a then (0 : Int) else a) = Z := by split <;> omega
  simp [Builtin.max_, Builtin.max2, e]
theorem run_min1000 (P : Program) (w : World) (ts : Array TypeId) (t : TypeId) (a Z : Int) (h : Z = min a 1000) : (Builtin.min_ ts t #[.int .i64 a, .int .i64 1000]).run P w = .ok (.int .i64 Z) w := by
  have e : (if (1000 : Int) < a then (1000 : Int) else a) = Z := by split <;> omega
  simp [Builtin.min_, Builtin.min2, e]
set_option maxRecDepth 100000 in
set_option maxHeartbeats 1600000 in
theorem editsAll_ok (A B : Option Addr) (n m c d : Nat) (xs : List Int) (room : Int) (R : Nat) (E : List Edt) (w : World) (hx : Row w 1 A n c (ints xs)) (ht : Edts w B m d E) (hR : (R : Int) = min (max room 0) 1000) (hn : n + evals E ≤ 17592186043904) (hm : m ≤ 274877906944) :
    Calls Try.prog 21 #[.slice A n c, .int .i64 room, .slice B m d] w fun e w' => ∃ C q D, e = .returned (.slice C m q) ∧ ERows w' C m q D ∧ D.map (fun d => (d.1, d.2.1)) = erows xs E ∧ Flags xs R E D ∧ Ext w w' := by
  have HX := Lib.hid hx
  have HT := Lib.hid ht
  clear hx ht
  have hR1 : R ≤ 1000 := by omega
  obtain ⟨cur, hcl, hmk⟩ := make1 w n R (by omega)
  obtain ⟨M, hM⟩ : ∃ M : Int, M = max room 0 := ⟨_, rfl⟩
  rw [← hM] at hR
  have hmax : ∀ (w : World) (ts : Array TypeId) (t : TypeId), (Builtin.max_ ts t #[.int .i64 room, .int .i64 0]).run Try.prog w = .ok (.int .i64 M) w := fun w ts t => run_max0 _ _ _ _ _ _ hM
  have hmin : ∀ (w : World) (ts : Array TypeId) (t : TypeId), (Builtin.min_ ts t #[.int .i64 M, .int .i64 1000]).run Try.prog w = .ok (.int .i64 (R : Int)) w := fun w ts t => run_min1000 _ _ _ _ _ _ hR
  have hR0 : (0 : Int) ≤ (R : Int) := by omega
  clear hM hR
  go_enter Try.func21, Try.ntmps21
  go_wp2_with (with_reducible refine stand_at 25 ?_)
  have hB1 : Blk (w.alloc (.cells cur.toArray 3)) w.heap.size 3 cur := heap_alloc_new w _
  have hE1 : Ext w (w.alloc (.cells cur.toArray 3)) := (Ext.refl w).alloc _
  generalize w.alloc (.cells cur.toArray 3) = W1 at hB1 hE1 ⊢
  have hcp := cp1 W1 3 w.heap.size 0 cur hB1 (some ⟨w.heap.size, 0, none⟩) n (n + R) A n c n (ints xs) (HX.out.ext hE1) (by omega) (fun u hu => ints_one xs u (List.mem_of_mem_take hu)) (fun _ => rfl) (by rw [hcl]; omega)
  have hxl : (ints xs).length = n := HX.out.len1
  rw [List.take_of_length_le (by rw [hxl]; exact Nat.le_refl _)] at hcp
  have hB2 := hB1.set (splice cur 0 (ints xs))
  have hE2 := hE1.grown (grown_setRow W1 w.heap.size (splice cur 0 (ints xs)).toArray) (fun k hk => by injection hk with hk; omega)
  generalize W1.setRow w.heap.size (splice cur 0 (ints xs)).toArray = W2 at hcp hB2 hE2
  refine Stand.mk (wpList_copy_run rfl _ _ _ rfl _ _ rfl rfl _ _ hcp ?_)
  have ho := own_mk1 (base := w.heap.size) (n := n) (c := n + R) (Nat.le_refl _) hB2 (Nat.le_add_right _ _) (by unfold maxLen; omega) (by rw [length_splice _ _ _ (by rw [hxl, hcl]; omega)]; exact hcl)
  have e1 : (splice cur 0 (ints xs)).take n = ints xs := by
    rw [splice, List.take_zero, List.nil_append, List.take_left' hxl]
  rw [e1] at ho
  have hxn : xs.length = n := HX.out.ints_len
  have hki : EInv w (W2.alloc (.cells #[] 41)) (.slice (some ⟨w.heap.size, 0, none⟩) n (n + R)) xs (.slice (some ⟨W2.heap.size, 0, none⟩) 0 0) [] := by
    refine ⟨?_, hE2.alloc _, OwnRecs.nil _ _ _ _ ?_⟩
    · rw [hxn]; exact own_ext ho ((Ext.refl W2).alloc _)
    · exact own_up (own_lit0' W2 _ _ _ rfl) hE2.size
  have HKI := Lib.hid hki
  have HXN := Lib.hid hxn
  clear hB1 hE1 hcp hxl hB2 hE2 ho e1 hki hxn hcl hmk hmax hmin
  go_wp2
  go_loopg [7, 8, 29] m (fun kx v u i wr => ∃ (j : Nat) (D : List ERow), j + kx = m ∧ i = .int .i64 (j : Int) ∧ Hid (EInv w wr v (eend xs (E.take j)) u D) ∧ Hid (D.map (fun d => (d.1, d.2.1)) = erows xs (E.take j)) ∧ Hid (Flags xs R E D) ∧ Hid (j = 0 → capOf v = n + R))
  case atStart => exact ⟨0, [], by omega, rfl, HKI, rfl, fun i d e hd => by simp at hd, fun _ => rfl⟩
  case round =>
    obtain ⟨j, D, hj, rfl, HK, HM, HF, HC⟩ := hrel
    by_cases hjt : j < m
    · obtain ⟨b, o, op, i1, i2, vs, V, q, rfl, hsk, hc1, hc2, hc3, hc4, hrow⟩ := edts_at (Recs.ext HT.out HK.out.2.1) (k := j) hjt
      have HTN := Lib.hid (take_snoc hsk.out)
      obtain ⟨l, hl⟩ : ∃ l, l = eend xs (E.take j) := ⟨_, rfl⟩
      rw [← hl] at HK
      have hev : evals (E.take j) + vs.length ≤ evals E := by
        have h1 := evals_take E (j + 1)
        rw [take_snoc hsk.out, evals_append] at h1
        simpa [evals] using h1
      have hll : l.length + vs.length ≤ n + evals E := by
        have h1 := eend_length xs (E.take j)
        rw [← hl, HXN.out] at h1
        omega
      have HL := Lib.hid hl
      clear hl hev
      have hDl : D.length = j := by
        have h1 := congrArg List.length HM.out
        rw [List.length_map, erows_length, List.length_take, edts_len HT.out] at h1
        omega
      have HDL := Lib.hid hDl
      clear hDl
      have hkw := HK.out.ext ((Ext.refl wr).alloc (.cells #[.int .i64 op, .int .i64 i1, .int .i64 i2, .slice V vs.length q] 29))
      obtain ⟨A1, c1, rfl, _⟩ := own_form hkw.1
      have hkc := edited_ok _ w.heap.size A1 l.length c1 l (op, i1, i2, vs) V q hkw.1 (hrow.out.ext ((Ext.refl wr).alloc _)) (by omega) (by simp only; omega) hkw.2.1.size
      unfold edV at hkc
      simp only at hkc
      have hst : stepP l (op, i1, i2, vs) = stepP l (op, i1, i2, vs) := rfl
      obtain ⟨l', hl'⟩ : ∃ l', l' = stepP l (op, i1, i2, vs) := ⟨_, rfl⟩
      obtain ⟨p, hp⟩ : ∃ p, p = outP l (op, i1, i2, vs) := ⟨_, rfl⟩
      have hll' : l'.length ≤ n + evals E := by
        have := stepP_length l (op, i1, i2, vs)
        rw [hl']; simp only at this; omega
      have HKC := Lib.hid hkc
      have HKW := Lib.hid hkw
      have HL' := Lib.hid hl'
      have HP := Lib.hid hp
      clear hkc hkw hst hl' hp
      go_wp2_with fail
      refine HKC.out.mono ?_
      rintro e w2 ⟨v', rfl, k1, k2, k3, k4, k5⟩
      rw [← HL'.out] at k1
      rw [← HP.out] at k4 ⊢
      have hk2 := HKW.out.edit k1 k2 k3
      obtain ⟨A7, c7, rfl, hr7⟩ := own_form hk2.1
      have HK2 := Lib.hid hk2
      have HR7 := Lib.hid hr7
      have HK3P := Lib.hid k3
      have HK4 := Lib.hid k4
      have HK5 := Lib.hid k5
      clear hk2 hr7 k1 k2 k3 k4 k5
      -- REST
      have hroom : (j = 0 ∧ vs.length ≤ R) → l.length + vs.length ≤ capOf (.slice A1 l.length c1) := fun h => by
        have h1 := HC.out h.1
        have h2 := HL.out
        rw [h1, h2, h.1]
        have h3 := HXN.out
        simp only [List.take_zero, eend]
        omega
      have HROOM := Lib.hid hroom
      clear hroom
      go_wp2
      by_cases hl0 : l.length = 0
      · have hI : ¬ (0 : Int) < (l.length : Int) := by omega
        have hde : decide (0 < l.length) = false := by simpa using hI
        have HL0 := Lib.hid hl0
        clear hl0
        go_quiet (fail)
        clear hI hde
        have hk3 := HK2.out.ext ((Ext.refl w2).drewN nq)
        generalize w2.drewN nq = W3 at hk3 ⊢
        have HK3 := Lib.hid hk3
        clear hk3
        obtain ⟨vs0, hvl, hu8, -⟩ := HK3.out.2.2
        have HVL := Lib.hid hvl
        have HU8 := Lib.hid hu8
        clear hvl hu8
        have hwz := HK3.out.2.1.size
        have hb1 : (0 + l'.length) * 8 ≤ 140737488355328 := by omega
        have hx1 : 0 + l'.length ≤ maxLen := by unfold maxLen; omega
        have hb2 : (D.length + 1) * 40 ≤ 140737488355328 := by rw [HDL.out]; omega
        have hx2 : D.length + 1 ≤ maxLen := by rw [HDL.out]; unfold maxLen; omega
        have hml1 : 1 ≤ maxLen := by unfold maxLen; omega
        go_wp2_with (with_reducible refine stand_at 59 ?_)
        refine Stand.mk (wpList_apps elInt rfl _ _ rfl W3.heap.size (.slice (some ⟨W3.heap.size, 0, none⟩) 0 0) 0 [] rfl (own_lit0 W3 _ _) _ l'.length c7 (ints l') rfl ((Row.own HK3.out.1).alloc _) (ints_one _) hb1 hx1 (by simp) ?_)
        intro A8 c8 w4 HO8 HG8 HL8
        have hx4 := ext_own (g := W3.heap.size) ((Ext.refl W3).alloc _) HG8.out rfl (Nat.le_refl _)
        have ho8 := HO8.out
        rw [Nat.zero_add, List.nil_append] at ho8
        rw [Nat.zero_add]
        have HX4 := Lib.hid hx4
        have HO8' := Lib.hid ho8
        clear hx4 ho8 HO8 HG8 HL8
        go_wp2_with (with_reducible refine stand_at 63 ?_)
        refine Stand.mk (wpList_apps elERow rfl _ _ rfl w.heap.size u8 D.length (recCells rcell D vs0) rfl (own_ext HU8.out (HX4.out.alloc _)) (some ⟨w4.heap.size, 0, none⟩) 1 1 [.bool p, .slice A8 l'.length c8, .bool false] rfl (Row.fresh' w4 _ 3 #[.bool p, .slice A8 l'.length c8, .bool false] 1 w4.heap.size rfl rfl hml1) (by simp [Value.oneCell']) hb2 hx2 (HK3.out.2.1.trans (HX4.out.alloc _)).size ?_)
        intro A9 c9 w5 HO9 HG9 HL9
        go_wp2
        go_roundg (gk - 1)
        case measure => omega
        case rel =>
          refine ⟨j + 1, D ++ [(p, l', false)], by omega, by go_num, ?_, ?_, ?_, fun h => absurd h (by omega)⟩
          · have hp := EInv.push (p := p) (s := false) HK3.out (HX4.out.alloc _) (own_ext HO8'.out ((Ext.refl w4).alloc _)) (Nat.le_refl _) HG9.out (u' := .slice A9 (D.length + 1) c9) (fun vs' _ h' => ?_)
            · rw [HTN.out, eend_snoc, ← HL.out, ← HL'.out]
              exact hp
            · have h9 := HO9.out
              rw [own_uniq h' (own_ext HU8.out (HX4.out.alloc _))]
              exact h9
          · refine Lib.hid ?_
            rw [List.map_append, HM.out, HTN.out, erows_snoc, ← HL.out, ← HL'.out, ← HP.out]
            rfl
          · exact flags_snoc HF.out HDL.out hsk.out HL.out (fun _ h _ => absurd (List.eq_nil_of_length_eq_zero HL0.out) h)
      · have hI : (0 : Int) < (l.length : Int) := by omega
        by_cases hm0 : l'.length = 0
        · have hI' : ¬ (0 : Int) < (l'.length : Int) := by omega
          have hde : decide (0 < l.length) = true := by simpa using hI
          have hde' : decide (0 < l'.length) = false := by simpa using hI'
          have HL0 := Lib.hid hl0
          have HM0 := Lib.hid hm0
          clear hl0 hm0
          go_quiet (fail)
          clear hI hI' hde hde'
          have hk3 := HK2.out.ext ((Ext.refl w2).drewN nq)
          generalize w2.drewN nq = W3 at hk3 ⊢
          have HK3 := Lib.hid hk3
          clear hk3
          obtain ⟨vs0, hvl, hu8, -⟩ := HK3.out.2.2
          have HVL := Lib.hid hvl
          have HU8 := Lib.hid hu8
          clear hvl hu8
          have hwz := HK3.out.2.1.size
          have hb1 : (0 + l'.length) * 8 ≤ 140737488355328 := by omega
          have hx1 : 0 + l'.length ≤ maxLen := by unfold maxLen; omega
          have hb2 : (D.length + 1) * 40 ≤ 140737488355328 := by rw [HDL.out]; omega
          have hx2 : D.length + 1 ≤ maxLen := by rw [HDL.out]; unfold maxLen; omega
          have hml1 : 1 ≤ maxLen := by unfold maxLen; omega
          go_wp2_with (with_reducible refine stand_at 59 ?_)
          refine Stand.mk (wpList_apps elInt rfl _ _ rfl W3.heap.size (.slice (some ⟨W3.heap.size, 0, none⟩) 0 0) 0 [] rfl (own_lit0 W3 _ _) _ l'.length c7 (ints l') rfl ((Row.own HK3.out.1).alloc _) (ints_one _) hb1 hx1 (by simp) ?_)
          intro A8 c8 w4 HO8 HG8 HL8
          have hx4 := ext_own (g := W3.heap.size) ((Ext.refl W3).alloc _) HG8.out rfl (Nat.le_refl _)
          have ho8 := HO8.out
          rw [Nat.zero_add, List.nil_append] at ho8
          rw [Nat.zero_add]
          have HX4 := Lib.hid hx4
          have HO8' := Lib.hid ho8
          clear hx4 ho8 HO8 HG8 HL8
          go_wp2_with (with_reducible refine stand_at 63 ?_)
          refine Stand.mk (wpList_apps elERow rfl _ _ rfl w.heap.size u8 D.length (recCells rcell D vs0) rfl (own_ext HU8.out (HX4.out.alloc _)) (some ⟨w4.heap.size, 0, none⟩) 1 1 [.bool p, .slice A8 l'.length c8, .bool false] rfl (Row.fresh' w4 _ 3 #[.bool p, .slice A8 l'.length c8, .bool false] 1 w4.heap.size rfl rfl hml1) (by simp [Value.oneCell']) hb2 hx2 (HK3.out.2.1.trans (HX4.out.alloc _)).size ?_)
          intro A9 c9 w5 HO9 HG9 HL9
          go_wp2
          go_roundg (gk - 1)
          case measure => omega
          case rel =>
            refine ⟨j + 1, D ++ [(p, l', false)], by omega, by go_num, ?_, ?_, ?_, fun h => absurd h (by omega)⟩
            · have hp := EInv.push (p := p) (s := false) HK3.out (HX4.out.alloc _) (own_ext HO8'.out ((Ext.refl w4).alloc _)) (Nat.le_refl _) HG9.out (u' := .slice A9 (D.length + 1) c9) (fun vs' _ h' => ?_)
              · rw [HTN.out, eend_snoc, ← HL.out, ← HL'.out]
                exact hp
              · have h9 := HO9.out
                rw [own_uniq h' (own_ext HU8.out (HX4.out.alloc _))]
                exact h9
            · refine Lib.hid ?_
              rw [List.map_append, HM.out, HTN.out, erows_snoc, ← HL.out, ← HL'.out, ← HP.out]
              rfl
            · exact flags_snoc HF.out HDL.out hsk.out HL.out (fun _ _ h => absurd (List.eq_nil_of_length_eq_zero HM0.out) h)
        · have hI' : (0 : Int) < (l'.length : Int) := by omega
          rcases own_cases1 HKW.out.1 with ⟨_, h0, _⟩ | ⟨g1, cc1, cur1, hv1, _, hbk1, _, _, _, _⟩
          · exact absurd h0 hl0
          rcases own_cases1 HK2.out.1 with ⟨_, h0, _⟩ | ⟨g7, cc7, cur7, hv7, _, hbk7, _, _, _, _⟩
          · exact absurd h0 hm0
          injection hv1 with hv1 _ hv1c
          injection hv7 with hv7 _ hv7c
          subst hv1 hv7
          have hg1 := hbk1.lt
          have hN : 0 < l.length := by omega
          have hN' : 0 < l'.length := by omega
          have hne1 : ¬ l = [] := fun h => hl0 (by rw [h]; rfl)
          have hne2 : ¬ l' = [] := fun h => hm0 (by rw [h]; rfl)
          have hne3 : l ≠ [] := hne1
          have hne4 : l' ≠ [] := hne2
          have hde1 : decide (0 < l.length) = true := by simpa using hN
          have hde2 : decide (0 < l'.length) = true := by simpa using hN'
          have HL0 := Lib.hid hl0
          have HM0 := Lib.hid hm0
          clear hl0 hm0
          clear hbk1 hv1c hv7c
          obtain ⟨-, ⟨ji, jz, hji, hjz, hjs, -, -⟩, -⟩ := elInt
          by_cases hgg : g1 = g7
          · subst hgg
            have heq := fun (w : World) => run_eql_ptr_same (P := Try.prog) w (tp := 50) ⟨g1, 0, none⟩ Try.underlying50 hji
            go_quiet (fail)
            clear hI hI' heq
            have hk3 := HK2.out.ext ((Ext.refl w2).drewN nq)
            generalize w2.drewN nq = W3 at hk3 ⊢
            have HK3 := Lib.hid hk3
            clear hk3
            obtain ⟨vs0, hvl, hu8, -⟩ := HK3.out.2.2
            have HVL := Lib.hid hvl
            have HU8 := Lib.hid hu8
            clear hvl hu8
            have hwz := HK3.out.2.1.size
            have hb1 : (0 + l'.length) * 8 ≤ 140737488355328 := by omega
            have hx1 : 0 + l'.length ≤ maxLen := by unfold maxLen; omega
            have hb2 : (D.length + 1) * 40 ≤ 140737488355328 := by rw [HDL.out]; omega
            have hx2 : D.length + 1 ≤ maxLen := by rw [HDL.out]; unfold maxLen; omega
            have hml1 : 1 ≤ maxLen := by unfold maxLen; omega
            go_wp2_with (with_reducible refine stand_at 59 ?_)
            refine Stand.mk (wpList_apps elInt rfl _ _ rfl W3.heap.size (.slice (some ⟨W3.heap.size, 0, none⟩) 0 0) 0 [] rfl (own_lit0 W3 _ _) _ l'.length c7 (ints l') rfl ((Row.own HK3.out.1).alloc _) (ints_one _) hb1 hx1 (by simp) ?_)
            intro A8 c8 w4 HO8 HG8 HL8
            have hx4 := ext_own (g := W3.heap.size) ((Ext.refl W3).alloc _) HG8.out rfl (Nat.le_refl _)
            have ho8 := HO8.out
            rw [Nat.zero_add, List.nil_append] at ho8
            rw [Nat.zero_add]
            have HX4 := Lib.hid hx4
            have HO8' := Lib.hid ho8
            clear hx4 ho8 HO8 HG8 HL8
            go_wp2_with (with_reducible refine stand_at 63 ?_)
            refine Stand.mk (wpList_apps elERow rfl _ _ rfl w.heap.size u8 D.length (recCells rcell D vs0) rfl (own_ext HU8.out (HX4.out.alloc _)) (some ⟨w4.heap.size, 0, none⟩) 1 1 [.bool p, .slice A8 l'.length c8, .bool true] rfl (Row.fresh' w4 _ 3 #[.bool p, .slice A8 l'.length c8, .bool true] 1 w4.heap.size rfl rfl hml1) (by simp [Value.oneCell']) hb2 hx2 (HK3.out.2.1.trans (HX4.out.alloc _)).size ?_)
            intro A9 c9 w5 HO9 HG9 HL9
            go_wp2
            go_roundg (gk - 1)
            case measure => omega
            case rel =>
              refine ⟨j + 1, D ++ [(p, l', true)], by omega, by go_num, ?_, ?_, ?_, fun h => absurd h (by omega)⟩
              · have hp := EInv.push (p := p) (s := true) HK3.out (HX4.out.alloc _) (own_ext HO8'.out ((Ext.refl w4).alloc _)) (Nat.le_refl _) HG9.out (u' := .slice A9 (D.length + 1) c9) (fun vs' _ h' => ?_)
                · rw [HTN.out, eend_snoc, ← HL.out, ← HL'.out]
                  exact hp
                · have h9 := HO9.out
                  rw [own_uniq h' (own_ext HU8.out (HX4.out.alloc _))]
                  exact h9
              · refine Lib.hid ?_
                rw [List.map_append, HM.out, HTN.out, erows_snoc, ← HL.out, ← HL'.out, ← HP.out]
                rfl
              · exact flags_snoc HF.out HDL.out hsk.out HL.out (fun _ _ _ => ⟨fun _ => rfl, fun h4 => absurd (HK5.out h4 g1 rfl) (by simp at hg1 ⊢; omega)⟩)
          · have hgb : (g1 == g7) = false := by simpa using hgg
            have hok : OldKept w2 (.slice (some ⟨g1, 0, none⟩) l.length c1) := by
              rcases HK3P.out with h | h
              · exact absurd (by simpa [Value.ownBlock] using h : g7 = g1) (Ne.symm hgg)
              · exact h.2
            obtain ⟨curo, hko⟩ := hok g1 rfl
            have heq := fun (nn : Nat) => run_eql_ptr_other (P := Try.prog) (w2.drewN nn) (tp := 50) (a := ⟨g1, 0, none⟩) (b := ⟨g7, 0, none⟩) Try.underlying50 hji (by rw [hjs]; decide) (by intro h; injection h with h; exact hgg h) hko hbk7
            clear hko hok
            go_quiet (fail)
            clear hI hI' heq
            have hk3 := HK2.out.ext ((Ext.refl w2).drewN nq)
            generalize w2.drewN nq = W3 at hk3 ⊢
            have HK3 := Lib.hid hk3
            clear hk3
            obtain ⟨vs0, hvl, hu8, -⟩ := HK3.out.2.2
            have HVL := Lib.hid hvl
            have HU8 := Lib.hid hu8
            clear hvl hu8
            have hwz := HK3.out.2.1.size
            have hb1 : (0 + l'.length) * 8 ≤ 140737488355328 := by omega
            have hx1 : 0 + l'.length ≤ maxLen := by unfold maxLen; omega
            have hb2 : (D.length + 1) * 40 ≤ 140737488355328 := by rw [HDL.out]; omega
            have hx2 : D.length + 1 ≤ maxLen := by rw [HDL.out]; unfold maxLen; omega
            have hml1 : 1 ≤ maxLen := by unfold maxLen; omega
            go_wp2_with (with_reducible refine stand_at 59 ?_)
            refine Stand.mk (wpList_apps elInt rfl _ _ rfl W3.heap.size (.slice (some ⟨W3.heap.size, 0, none⟩) 0 0) 0 [] rfl (own_lit0 W3 _ _) _ l'.length c7 (ints l') rfl ((Row.own HK3.out.1).alloc _) (ints_one _) hb1 hx1 (by simp) ?_)
            intro A8 c8 w4 HO8 HG8 HL8
            have hx4 := ext_own (g := W3.heap.size) ((Ext.refl W3).alloc _) HG8.out rfl (Nat.le_refl _)
            have ho8 := HO8.out
            rw [Nat.zero_add, List.nil_append] at ho8
            rw [Nat.zero_add]
            have HX4 := Lib.hid hx4
            have HO8' := Lib.hid ho8
            clear hx4 ho8 HO8 HG8 HL8
            go_wp2_with (with_reducible refine stand_at 63 ?_)
            refine Stand.mk (wpList_apps elERow rfl _ _ rfl w.heap.size u8 D.length (recCells rcell D vs0) rfl (own_ext HU8.out (HX4.out.alloc _)) (some ⟨w4.heap.size, 0, none⟩) 1 1 [.bool p, .slice A8 l'.length c8, .bool false] rfl (Row.fresh' w4 _ 3 #[.bool p, .slice A8 l'.length c8, .bool false] 1 w4.heap.size rfl rfl hml1) (by simp [Value.oneCell']) hb2 hx2 (HK3.out.2.1.trans (HX4.out.alloc _)).size ?_)
            intro A9 c9 w5 HO9 HG9 HL9
            go_wp2
            go_roundg (gk - 1)
            case measure => omega
            case rel =>
              refine ⟨j + 1, D ++ [(p, l', false)], by omega, by go_num, ?_, ?_, ?_, fun h => absurd h (by omega)⟩
              · have hp := EInv.push (p := p) (s := false) HK3.out (HX4.out.alloc _) (own_ext HO8'.out ((Ext.refl w4).alloc _)) (Nat.le_refl _) HG9.out (u' := .slice A9 (D.length + 1) c9) (fun vs' _ h' => ?_)
                · rw [HTN.out, eend_snoc, ← HL.out, ← HL'.out]
                  exact hp
                · have h9 := HO9.out
                  rw [own_uniq h' (own_ext HU8.out (HX4.out.alloc _))]
                  exact h9
              · refine Lib.hid ?_
                rw [List.map_append, HM.out, HTN.out, erows_snoc, ← HL.out, ← HL'.out, ← HP.out]
                rfl
              · exact flags_snoc HF.out HDL.out hsk.out HL.out (fun h1 _ _ => ⟨fun h2 => absurd (HK4.out h1 (h2.imp HROOM.out)) (fun h => hgg (by injection h with h; exact h.symm)), fun _ => rfl⟩)
    · obtain rfl : j = m := by omega
      have e2 : E.take j = E := List.take_of_length_le (by rw [edts_len HT.out]; exact Nat.le_refl _)
      rw [e2] at HM HK
      obtain ⟨C, q, rfl, hd⟩ := OwnRecs.recs HK.out.2.2
      have hDl : D.length = j := by
        have h1 := congrArg List.length HM.out
        rw [List.length_map, erows_length, edts_len HT.out] at h1
        exact h1
      have HDD := Lib.hid hd
      have HDL := Lib.hid hDl
      clear hd e2 hDl
      go_wp2
      go_ret
      refine ⟨C, q, D, by rw [← HDL.out]; rfl, ?_, HM.out, HF.out, HK.out.2.1⟩
      have := HDD.out
      rw [HDL.out] at this
      exact this
end Go.Proofs.Ytaimljagflnfpaa
