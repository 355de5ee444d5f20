/- The contract of impl.Kept: the rows of a script on a list in order. No statement of the seat is proved here. -/
import Derived.Test.YtefeedpeiiaanaaKept
namespace Go.Proofs.Ytefeedpeiiaanaa
open Go.RowKit

/-- The rows behind the steps of a script. -/
def krows (S : List (Int × Int)) : List Stp → List DEnt
  | [] => []
  | s :: T => ((kstep S s).2.2, (kstep S s).2.1, (kstep S s).1) :: krows (kstep S s).1 T
def kend (S : List (Int × Int)) : List Stp → List (Int × Int)
  | [] => S
  | s :: T => kend (kstep S s).1 T
theorem krows_snoc (S : List (Int × Int)) (T : List Stp) (s : Stp) : krows S (T ++ [s]) = krows S T ++ [((kstep (kend S T) s).2.2, (kstep (kend S T) s).2.1, (kstep (kend S T) s).1)] := by
  induction T generalizing S with
  | nil => rfl
  | cons a T ih => simp only [List.cons_append, krows, kend, ih]
theorem kend_snoc (S : List (Int × Int)) (T : List Stp) (s : Stp) : kend S (T ++ [s]) = (kstep (kend S T) s).1 := by
  induction T generalizing S with
  | nil => rfl
  | cons a T ih => simp only [List.cons_append, kend, ih]
theorem krows_length (S : List (Int × Int)) (T : List Stp) : (krows S T).length = T.length := by
  induction T generalizing S with
  | nil => rfl
  | cons a T ih => simp [krows, ih]
theorem kend_ord {S : List (Int × Int)} (h : Ord S) (T : List Stp) : Ord (kend S T) := by
  induction T generalizing S with
  | nil => exact h
  | cons a T ih => exact ih (kstep_ord h a)
theorem kend_len (S : List (Int × Int)) (T : List Stp) : (kend S T).length ≤ S.length + T.length := by
  induction T generalizing S with
  | nil => simp [kend]
  | cons a T ih => have h1 := ih (kstep S a).1; have h2 := kstep_len S a; simp only [kend, List.length_cons]; omega

/-- In the loop of impl.Kept: the list v in order, and the rows u that have been told. -/
def KInv (w wr : World) (v : Value) (S : List (Int × Int)) (u : Value) (D : List DEnt) : Prop :=
  wr.ownsRow w.heap.size 28 2 v S.length (its S) ∧ Ext w wr ∧ ∃ vs : List Value, vs.length = D.length ∧ wr.ownsRow w.heap.size 34 4 u D.length (dcells D vs) ∧ ∀ (i : Nat) (d : DEnt), D[i]? = some d → ∃ x, vs[i]? = some x ∧ RowOff wr v.ownBlock d.2.2 x
theorem KInv.ext {w wr w1 : World} {v u : Value} {S : List (Int × Int)} {D : List DEnt} (h : KInv w wr v S u D) (hx : Ext wr w1) : KInv w w1 v S u D := by
  obtain ⟨h1, h2, vs, h3, h4, h5⟩ := h
  refine ⟨own_ext h1 hx, h2.trans hx, vs, h3, own_ext h4 hx, fun i d hd => ?_⟩
  obtain ⟨x, hx1, hx2⟩ := h5 i d hd
  exact ⟨x, hx1, hx2.ext hx⟩
theorem KInv.edit {w wr w1 : World} {v v' u : Value} {S S' : List (Int × Int)} {D : List DEnt} (h : KInv w wr v S u D) (hed : EditedItem wr w.heap.size v S'.length (its S') (.returned v') w1) : KInv w w1 v' S' u D := by
  obtain ⟨h1, h2, vs, h3, h4, h5⟩ := h
  obtain ⟨v2, z0, k1, k2, k3⟩ := hed
  injection z0 with z0
  subst z0
  refine ⟨k1, h2.grown k2 fun g hg => (h1.lt g hg).1, vs, h3, ?_, fun i d hd => ?_⟩
  · rcases own_own_ne h4 h1 (by decide) with h0 | h0
    · exact h4.kept k2 (.inl h0)
    · exact h4.kept k2 (.inr h0)
  · obtain ⟨x, hx1, hx2⟩ := h5 i d hd
    exact ⟨x, hx1, hx2.keep k2 (fun b cs _ hh => hh) k3⟩
theorem KInv.push {w wr w2 w3 : World} {v u u' : Value} {S : List (Int × Int)} {D : List DEnt} {is : Bool} {x1 x2 : Int} {A : Option Addr} {c base : Nat} (h : KInv w wr v S u D) (hx : Ext wr w2) (hc : w2.ownsRow base 28 2 (.slice A S.length c) S.length (its S)) (hcb : wr.heap.size ≤ base)
    (hg : w2.grownBy w3 u.ownBlock) (ho : ∀ vs : List Value, vs.length = D.length → w2.ownsRow w.heap.size 34 4 u D.length (dcells D vs) → w3.ownsRow w.heap.size 34 4 u' (D.length + 1) (dcells D vs ++ dcell (is, (x1, x2), S) (.slice A S.length c))) :
    KInv w w3 v S u' (D ++ [(is, (x1, x2), S)]) := by
  have h' := h.ext hx
  have hvb := h.1
  obtain ⟨h1, h2, vs, h3, h4, h5⟩ := h'
  have hub : ∀ b cs, w2.heap[b]? = some (.cells cs 28 (0, 0)) → u.ownBlock ≠ some b := fun b cs hb => row_ne h4 hb (by decide)
  have hne1 := own_own_ne h1 h4 (by decide)
  refine ⟨h1.kept hg hne1, h2.grown hg fun g hg => (h4.lt g hg).1, vs ++ [.slice A S.length c], by simp [h3], ?_, fun i d hd => ?_⟩
  · have := ho vs h3 h4
    rw [dcells_snoc D vs h3, List.length_append]
    exact this
  · rcases Nat.lt_or_ge i D.length with hi | hi
    · rw [List.getElem?_append_left hi] at hd
      obtain ⟨x, hx1, hx2⟩ := h5 i d hd
      refine ⟨x, ?_, hx2.keep hg (fun b cs hb _ => hub b cs hb) (.inl rfl)⟩
      rw [List.getElem?_append_left (by omega)]
      exact hx1
    · rw [List.getElem?_append_right hi] at hd
      have hi0 : i = D.length := by
        rcases Nat.eq_or_lt_of_le hi with e | e
        · exact e.symm
        · rw [List.getElem?_eq_none (by simp; omega)] at hd; cases hd
      subst hi0
      simp at hd
      subst hd
      refine ⟨.slice A S.length c, by rw [List.getElem?_append_right (by omega)]; simp [h3], ?_⟩
      have hro : RowOff w2 v.ownBlock S (.slice A S.length c) := RowOff.own hc (by
        cases A with
        | none => exact .inr rfl
        | some a =>
          refine .inl fun e => ?_
          have e1 := (hc.lt a.block rfl).1
          have e2 := (hvb.lt a.block e).2
          omega)
      exact hro.keep hg (fun b cs hb _ => hub b cs hb) (.inl rfl)
theorem KInv.dones {w wr : World} {v u : Value} {S : List (Int × Int)} {D : List DEnt} (h : KInv w wr v S u D) : ∃ C q, u = .slice C D.length q ∧ Dones wr C D.length q D := by
  obtain ⟨_, _, vs, h3, h4, h5⟩ := h
  obtain ⟨C, q, rfl, hr⟩ := own_form h4
  refine ⟨C, q, rfl, vs, h3, hr, fun i d hd => ?_⟩
  obtain ⟨x, hx1, B, q', rfl, hx2, _⟩ := h5 i d hd
  exact ⟨B, q', hx1, hx2⟩

theorem KInv.start {w wr w1 : World} {A5 A6 : Option Addr} {S : List (Int × Int)} {c5 q6 : Nat} (h1 : wr.ownsRow w.heap.size 28 2 (.slice A5 S.length c5) S.length (its S)) (hx : Ext w wr) (ho : w1.ownsRow wr.heap.size 28 2 (.slice A6 S.length q6) S.length (its S)) (hg : Ext wr w1) :
    KInv w (w1.alloc (.cells #[.bool false, .int .i64 0, .int .i64 0, .slice A6 S.length q6] 34)) (.slice A5 S.length c5) S (.slice (some ⟨w1.heap.size, 0, none⟩) 1 1) [(false, (0, 0), S)] := by
  have hx1 : Ext wr (w1.alloc (.cells #[.bool false, .int .i64 0, .int .i64 0, .slice A6 S.length q6] 34)) := hg.alloc _
  have hz := hx.size
  have hz1 := hg.size
  refine ⟨own_ext h1 hx1, hx.trans hx1, [.slice A6 S.length q6], rfl, ?_, fun i d hd => ?_⟩
  · exact World.ownsRow_lit w1 #[.bool false, .int .i64 0, .int .i64 0, .slice A6 S.length q6] 1 (by omega) (by unfold maxLen; omega) rfl
  · cases i with
    | succ i => simp at hd
    | zero =>
      simp at hd
      subst hd
      refine ⟨_, rfl, RowOff.own (own_ext ho ((Ext.refl w1).alloc _)) ?_⟩
      cases A6 with
      | none => exact .inr rfl
      | some a =>
        refine .inl fun e => ?_
        have e1 := (ho.lt a.block rfl).1
        have e2 := (h1.lt a.block e).2
        omega

set_option maxRecDepth 100000 in
set_option maxHeartbeats 1600000 in
theorem keptAll_ok (A B : Option Addr) (n m c d : Nat) (xs : List (Int × Int)) (T : List Stp) (w : World) (hx : Row w 2 A n c (its xs)) (ht : Row w 4 B m d (sts T)) (hn : n ≤ 274877906944) (hm : m ≤ 274877906944) :
    Calls Try.prog 16 #[.slice A n c, .slice B m d] w fun e w' => ∃ C q, e = .returned (.slice C (m + 1) q) ∧ Dones w' C (m + 1) q ((false, (0, 0), sortP xs) :: krows (sortP xs) T) ∧ Ext w w' := by
  have HX := Lib.hid hx
  have HT := Lib.hid ht
  clear hx ht
  go_enter Try.func16, Try.ntmps16
  go_wp2
  go_loopg [5, 17] n (fun kx v i wr => ∃ k : Nat, k + kx = n ∧ i = .int .i64 (k : Int) ∧ Hid (wr.ownsRow w.heap.size 28 2 v k (its (sortP (xs.take k)))) ∧ Hid (Ext w wr))
  case atStart => exact ⟨0, by omega, rfl, own_lit0 _ _ _, (Ext.refl w).alloc _⟩
  case round =>
    obtain ⟨k, hk, rfl, HO, HE⟩ := hrel
    by_cases hlt : k < n
    · obtain ⟨b, o, x1, x2, rfl, hxk, hc1, hc2⟩ := (HX.out.ext HE.out).item_at (k := k) hlt
      have HN := Lib.hid (take_snoc hxk.out)
      have hz := HE.out.size
      go_wp2_with fail
      refine (put_fr wr _ w.heap.size u5 k (sortP (xs.take k)) x1 x2 ((Ext.refl wr).alloc _) HO.out (sortP_ord _) (by omega) hz).mono ?_
      rintro e w1 ⟨v', rfl, HED, _, _⟩
      go_wp2
      go_roundg (gk - 1)
      case measure => omega
      case rel =>
        obtain ⟨v2, z0, h1, h2, h3⟩ := HED.out
        injection z0 with z0
        subst z0
        refine ⟨k + 1, by omega, by go_num, ?_, HE.out.grown h2 fun g hg => (HO.out.lt g hg).1⟩
        rw [HN.out, sortP_snoc]
        exact h1
    · obtain rfl : k = n := by omega
      have e1 : xs.take k = xs := List.take_of_length_le (by rw [HX.out.its_len]; omega)
      rw [e1] at HO
      obtain ⟨A5, c5, rfl, hr5⟩ := own_form HO.out
      have HR5 := Lib.hid hr5
      clear hr5 e1
      have hml1 : 1 ≤ maxLen := by unfold maxLen; omega
      go_wp2_with (at_builtin; refine Stand.out ?_)
      refine Stand.mk (wpList_apps elItem rfl _ _ rfl wr.heap.size (.slice (some ⟨wr.heap.size, 0, none⟩) 0 0) 0 [] rfl (own_lit0 wr _ _) A5 k c5 (its (sortP xs)) rfl (HR5.out.alloc _) (its_one _) (by omega) (by unfold maxLen; omega) (by simp) ?_)
      intro A6 q6 w1 HO6 HG6 HL6
      have ho6 := HO6.out
      rw [Nat.zero_add, List.nil_append] at ho6
      have hk6 : KInv w (w1.alloc (.cells #[.bool false, .int .i64 0, .int .i64 0, .slice A6 k q6] 34)) (.slice A5 k c5) (sortP xs) (.slice (some ⟨w1.heap.size, 0, none⟩) 1 1) [(false, (0, 0), sortP xs)] := by
        have hsl : (sortP xs).length = k := by rw [sortP_length, HX.out.its_len]
        have ho5 := HO.out
        have hg6 : Ext wr w1 := ((Ext.refl wr).alloc _).grown HG6.out fun g hg => by
          simp [Value.ownBlock] at hg
          omega
        rw [← hsl] at ho5 ho6 ⊢
        exact KInv.start ho5 HE.out ho6 hg6
      have HK6 := Lib.hid hk6
      clear hk6 ho6 HO6 HG6 HL6
      go_wp2
      go_loopg [5, 8, 32] m (fun kx v u i wr => ∃ j : Nat, j + kx = m ∧ i = .int .i64 (j : Int) ∧ Hid (KInv w wr v (kend (sortP xs) (T.take j)) u ((false, (0, 0), sortP xs) :: krows (sortP xs) (T.take j))))
      case atStart => exact ⟨0, by omega, rfl, HK6.out⟩
      case round =>
        obtain ⟨j, hj, rfl, HK⟩ := hrel
        by_cases hjt : j < m
        · obtain ⟨b, o, s1, s2, s3, s4, rfl, hsk, hc1, hc2, hc3, hc4⟩ := (HT.out.ext HK.out.2.1).step_at (k := j) hjt
          have HTN := Lib.hid (take_snoc hsk.out)
          obtain ⟨S, hS⟩ : ∃ S, S = kend (sortP xs) (T.take j) := ⟨_, rfl⟩
          rw [← hS] at HK
          have hSo : Ord S := by rw [hS]; exact kend_ord (sortP_ord _) _
          have hSl : S.length ≤ k + m := by
            have h1 := kend_len (sortP xs) (T.take j)
            have h2 := HX.out.its_len
            rw [← hS, sortP_length, h2, List.length_take] at h1
            omega
          have HS := Lib.hid hS
          clear hS
          obtain ⟨D, hD⟩ : ∃ D, D = (false, ((0 : Int), (0 : Int)), sortP xs) :: krows (sortP xs) (T.take j) := ⟨_, rfl⟩
          rw [← hD] at HK
          have hDl : D.length = j + 1 := by rw [hD, List.length_cons, krows_length, List.length_take, HT.out.sts_len]; omega
          have HD := Lib.hid hD
          have HDL := Lib.hid hDl
          clear hD hDl
          have hkw := HK.out.ext ((Ext.refl wr).alloc (.cells #[.int .i64 s1, .int .i64 s2, .int .i64 s3, .int .i64 s4] 30))
          have hkc := kept_ok _ w.heap.size u5 S.length S (s1, (s2, s3), s4) hkw.1 hSo (by omega) hkw.2.1.size
          unfold stpV at hkc
          simp only at hkc
          obtain ⟨S', x1, x2, is, hst⟩ : ∃ S' x1 x2 is, kstep S (s1, (s2, s3), s4) = (S', (x1, x2), is) := ⟨_, _, _, _, rfl⟩
          rw [hst] at hkc
          have hS'l : S'.length ≤ S.length + 1 := by have := kstep_len S (s1, (s2, s3), s4); rw [hst] at this; exact this
          have HST := Lib.hid hst
          have HKC := Lib.hid hkc
          have HKW := Lib.hid hkw
          clear hkc hkw hst
          go_wp2_with fail
          refine HKC.out.mono ?_
          rintro e w2 ⟨v', rfl, hed⟩
          have hk2 := HKW.out.edit hed
          obtain ⟨A7, c7, rfl, hr7⟩ := own_form hk2.1
          have HK2 := Lib.hid hk2
          have HR7 := Lib.hid hr7
          clear hk2 hr7 hed
          have hwz := HK2.out.2.1.size
          have hb1 : (0 + S'.length) * 16 ≤ 140737488355328 := by omega
          have hx1 : 0 + S'.length ≤ maxLen := by unfold maxLen; omega
          have hb2 : (D.length + 1) * 48 ≤ 140737488355328 := by rw [HDL.out]; omega
          have hx2 : D.length + 1 ≤ maxLen := by rw [HDL.out]; unfold maxLen; omega
          obtain ⟨vs, hvl, hu8, -⟩ := HK2.out.2.2
          have HVL := Lib.hid hvl
          have HU8 := Lib.hid hu8
          have HUN : Hid (some w2.heap.size ≠ u8.ownBlock) := fun e => by have := (hu8.lt _ e.symm).2; omega
          clear hvl hu8
          go_wp2
          go_region_held3 (fun w' => w'.cell? ⟨w2.heap.size, 0, none⟩ = some (.int .i64 x1) ∧ w'.cell? ⟨w2.heap.size, 1, none⟩ = some (.int .i64 x2))
            (first | go_keep | exact ⟨HG9.out.cell (((Ext.refl w4).alloc _).cell_some (HG8.out.cell (a := ⟨w2.heap.size, 0, none⟩) (by go_simp) (by simp [Value.ownBlock]))) HUN.out, HG9.out.cell (((Ext.refl w4).alloc _).cell_some (HG8.out.cell (a := ⟨w2.heap.size, 1, none⟩) (by go_simp) (by simp [Value.ownBlock]))) HUN.out⟩ | exact ⟨HG8.out.cell (by go_simp) (by simp [Value.ownBlock]), HG8.out.cell (by go_simp) (by simp [Value.ownBlock])⟩)
            (first | (refine step_apps elItem rfl (.tmp 47) (.tmp 48) rfl (w2.heap.size + 1) (.slice (some ⟨w2.heap.size + 1, 0, none⟩) 0 0) 0 [] rfl (own_ext (own_lit0' (w2.alloc (.cells #[.int .i64 x1, .int .i64 x2] 28)) _ _ _ (by go_simp)) (Ext.refl _).drew) A7 S'.length c7 (its S') rfl (HR7.out.ext (((Ext.refl w2).alloc _).alloc _).drew) (its_one _) hb1 hx1 (by go_simp) ?_; intro A8 c8 w4 HO8 HG8 HL8)
                   | (refine step_apps elDone rfl (.tmp 44) (.tmp 51) rfl w.heap.size u8 D.length (dcells D vs) rfl (own_ext (own_over (g := w2.heap.size + 1) HU8.out (((Ext.refl w2).alloc _).alloc _).drew HG8.out (Nat.le_succ _)) ((Ext.refl w4).alloc _)) (some ⟨w4.heap.size, 0, none⟩) 1 1 [.bool is, .int .i64 x1, .int .i64 x2, .slice A8 S'.length c8] rfl (Row.fresh' w4 _ 4 #[.bool is, .int .i64 x1, .int .i64 x2, .slice A8 S'.length c8] 1 w4.heap.size rfl rfl hml1) (by simp [Value.oneCell']) hb2 hx2 (HK2.out.2.1.trans ((ext_own (g := w2.heap.size + 1) (((Ext.refl w2).alloc _).alloc _).drew HG8.out rfl (Nat.le_succ _)).alloc _)).size ?_; intro A9 c9 w5 HO9 HG9 HL9))
          go_wp2
          go_roundg (gk - 1)
          case measure => omega
          case rel =>
            refine ⟨j + 1, by omega, by go_num, ?_⟩
            have hx4 := ext_own (g := w2.heap.size + 1) (((Ext.refl w2).alloc _).alloc _).drew HG8.out rfl (Nat.le_succ _)
            have ho8 := HO8.out
            rw [Nat.zero_add, List.nil_append] at ho8
            have hp := KInv.push (is := is) (x1 := x1) (x2 := x2) HK2.out (hx4.alloc _) (own_ext ho8 ((Ext.refl w4).alloc _)) (Nat.le_succ _) HG9.out (u' := .slice A9 (D.length + 1) c9) (fun vs' _ h' => ?_)
            · rw [HTN.out, kend_snoc, krows_snoc, ← HS.out, HST.out, ← List.cons_append, ← HD.out]
              exact hp
            · have h9 := HO9.out
              have hu := own_ext (own_over (g := w2.heap.size + 1) HU8.out (((Ext.refl w2).alloc _).alloc _).drew HG8.out (Nat.le_succ _)) ((Ext.refl w4).alloc (.cells #[.bool is, .int .i64 x1, .int .i64 x2, .slice A8 S'.length c8] 34))
              rw [own_uniq h' hu]
              exact h9
        · obtain rfl : j = m := by omega
          have e2 : T.take j = T := List.take_of_length_le (by rw [HT.out.sts_len]; omega)
          rw [e2] at HK
          obtain ⟨C, q, rfl, hd⟩ := HK.out.dones
          have HDD := Lib.hid hd
          have HXX := Lib.hid HK.out.2.1
          clear hd HK e2
          go_wp2
          have hkl : ((false, ((0 : Int), (0 : Int)), sortP xs) :: krows (sortP xs) T).length = j + 1 := by rw [List.length_cons, krows_length, HT.out.sts_len]
          exact bodyPost_ret (v := .slice C ((false, ((0 : Int), (0 : Int)), sortP xs) :: krows (sortP xs) T).length q) (by simp [results, Try.results16, go_sem]) rfl ⟨C, q, by rw [hkl], by have := HDD.out; rw [hkl] at this; exact this, HXX.out⟩
end Go.Proofs.Ytefeedpeiiaanaa
