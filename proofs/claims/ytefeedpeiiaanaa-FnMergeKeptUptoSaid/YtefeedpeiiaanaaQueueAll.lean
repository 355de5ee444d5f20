/- The contract of impl.Queue: the rows of a script on a heap. No statement of the seat is proved here. -/
import Derived.Test.YtefeedpeiiaanaaQueued2
import Derived.Test.YtefeedpeiiaanaaQueuePlain
import Derived.Test.YtefeedpeiiaanaaLaws4
namespace Go.Proofs.Ytefeedpeiiaanaa
open Go.RowKit

theorem queued_ok (w : World) (base p n : Nat) (v : Value) (L : List (Int × Int)) (s : Stp) (h : HSt w base p n v L) (hs : n ≤ 1099511620000) (hbase : base ≤ w.heap.size) :
    Calls Try.prog 23 #[.pointer (some ⟨p, 0, none⟩), stpV s] w (QPost w base p v (qstep L s).1 (qstep L s).2.1 (qstep L s).2.2) := by
  obtain ⟨k, ⟨x1, x2⟩, y⟩ := s
  have hl := h.len
  unfold stpV qstep
  simp only
  by_cases h0 : k = 0
  · subst h0
    rw [if_pos rfl]
    exact queued_push w base p n v L x1 x2 y h hs hbase
  rw [if_neg h0]
  by_cases h1 : k = 1
  · subst h1
    rw [if_pos rfl]
    by_cases hn : 0 < L.length
    · rw [if_pos hn]
      exact queued_pop w base p n v L x1 x2 y h hs (by omega)
    · rw [if_neg hn]
      obtain rfl : n = 0 := by omega
      exact queued_pop_none w base p v L x1 x2 y h
  rw [if_neg h1]
  by_cases h2 : k = 2
  · subst h2
    rw [if_pos rfl]
    by_cases hm : (x1, x2) ∈ L
    · rw [if_pos hm]; exact queued_remove w base p n v L x1 x2 y h hs hm
    · rw [if_neg hm]; exact queued_out2 w base p n v L x1 x2 y h hm
  rw [if_neg h2]
  by_cases h3 : k = 3
  · subst h3
    rw [if_pos rfl]
    by_cases hm : (x1, x2) ∈ L
    · rw [if_pos hm]; exact queued_fix w base p n v L x1 x2 y h hs hm
    · rw [if_neg hm]; exact queued_out3 w base p n v L x1 x2 y h hm
  rw [if_neg h3]
  by_cases h4 : k = 4
  · subst h4
    rw [if_pos rfl]
    exact queued_init w base p n v L x1 x2 y h hs
  · rw [if_neg h4]
    exact queued_other w base p n v L k x1 x2 y (by simpa using h0) (by simpa using h1) (by simpa using h2) (by simpa using h3) (by simpa using h4) h

theorem qstep_len (L : List (Int × Int)) (s : Stp) : (qstep L s).1.length ≤ L.length + 1 := by
  unfold qstep
  split
  · rw [pushL_length]; exact Nat.le_refl _
  · split
    · split
      · simp only [List.length_take]; omega
      · simp
    · split
      · split
        · simp only [List.length_take]; omega
        · simp
      · split
        · split
          · simp [fixAt_length]
          · simp
        · split
          · simp [initL_length]
          · simp
theorem qend_len (S : List (Int × Int)) (T : List Stp) : (qend S T).length ≤ S.length + T.length := by
  induction T generalizing S with
  | nil => simp [qend]
  | cons a T ih => have h1 := ih (qstep S a).1; have h2 := qstep_len S a; simp only [qend, List.length_cons]; omega

theorem own_keep2 {w w' : World} {base p : Nat} {e : TypeId} {sz n : Nat} {u : Value} {xs : List Value} {row : Option Nat} (h : w.ownsRow base e sz u n xs) (hg : Grown2 w w' p row) (hp : u.ownBlock ≠ some p) (hr : u.ownBlock = none ∨ u.ownBlock ≠ row) : w'.ownsRow base e sz u n xs := by
  rcases own_cases h with ⟨rfl, rfl, rfl⟩ | ⟨g, c, cur, rfl, hb, hk, hnc, hcm, hcl, ht⟩
  · exact ⟨h.1, .inl ⟨rfl, rfl⟩⟩
  · have hk' : Blk w' g e cur := by
      unfold Blk at hk ⊢
      rw [hg.block g (blk_lt hk) (fun e => hp (by rw [e]; rfl)) (fun e => by
        rcases hr with h0 | h0
        · cases h0
        · exact h0 (by rw [← e]; rfl))]
      exact hk
    have hm := own_mk (n := n) (sz := sz) hb hk' hnc hcm hcl
    rw [ht] at hm
    exact hm
theorem RowOff.keep2 {w w' : World} {p : Nat} {row row' : Option Nat} {xs : List (Int × Int)} {v : Value} {vp : Value} (h : RowOff w row xs v) (hg : Grown2 w w' p row) (hp : w.heap[p]? = some (.cells #[vp] 48 (0, 0))) (hn : row' = row ∨ ∃ g, row' = some g ∧ w.heap.size ≤ g) : RowOff w' row' xs v := by
  have hb' : ∀ b cs, w.heap[b]? = some (.cells cs 28 (0, 0)) → row ≠ some b → w'.heap[b]? = some (.cells cs 28 (0, 0)) := by
    intro b cs h1 h2
    rw [hg.block b (blk_lt h1) (fun e => by subst e; rw [hp] at h1; injection h1 with h1; injection h1 with _ h1; revert h1; decide) (Ne.symm h2)]
    exact h1
  obtain ⟨B, q, rfl, hr, hb⟩ := h
  refine ⟨B, q, rfl, ⟨hr.1, hr.2.1, hr.2.2.1, fun h0 => ?_⟩, fun b o he => ?_⟩
  · obtain ⟨b, o, e, hc⟩ := hr.2.2.2 h0
    obtain ⟨h1, cs, h2⟩ := hb b o e
    refine ⟨b, o, e, fun j u hu => ?_⟩
    have := hc j u hu
    simp only [World.cell?, h2] at this
    simp only [World.cell?, hb' b cs h2 h1]
    exact this
  · obtain ⟨h1, cs, h2⟩ := hb b o he
    refine ⟨?_, cs, hb' b cs h2 h1⟩
    rcases hn with h | ⟨g, h, hg2⟩
    · rw [h]; exact h1
    · rw [h]; intro e; injection e with e; have := blk_lt h2; omega

/-- In the loop of impl.Queue: the heap's variable in block p, and the rows u that have been told. -/
def QInv (w wr : World) (p : Nat) (v : Value) (L : List (Int × Int)) (u : Value) (D : List DEnt) : Prop :=
  KInv w wr v L u D ∧ HSt wr w.heap.size p L.length v L
theorem QInv.ext {w wr w1 : World} {p : Nat} {v u : Value} {L : List (Int × Int)} {D : List DEnt} (h : QInv w wr p v L u D) (hx : Ext wr w1) : QInv w w1 p v L u D := ⟨h.1.ext hx, h.2.ext hx⟩
theorem done_ne {w : World} {base n : Nat} {u vp : Value} {xs : List Value} {p : Nat} (h : w.ownsRow base 34 4 u n xs) (hp : w.heap[p]? = some (.cells #[vp] 48 (0, 0))) : u.ownBlock ≠ some p := row_ne h hp (by decide)
theorem QInv.edit {w wr w1 : World} {p m : Nat} {v v' u : Value} {L L' : List (Int × Int)} {D : List DEnt} (h : QInv w wr p v L u D) (hh : HSt w1 w.heap.size p m v' L') (hg : Grown2 wr w1 p v.ownBlock) (hm : Moved wr v v') : QInv w w1 p v' L' u D := by
  obtain ⟨⟨h1, h2, vs, h3, h4, h5⟩, h6⟩ := h
  obtain rfl := hh.len
  refine ⟨⟨hh.own, ?_, vs, h3, own_keep2 h4 hg (done_ne h4 h6.blk) (own_own_ne h4 h1 (by decide)), fun i d hd => ?_⟩, hh⟩
  · have hb := h6.hb
    have h2' : Below w.heap.size w wr := h2
    refine ⟨hg.os.trans h2'.os, hg.tape.trans h2'.tape, hg.output.trans h2'.output, Nat.le_trans h2'.size hg.size, fun i hi => ?_⟩
    rw [hg.block i (Nat.lt_of_lt_of_le hi h2'.size) (by omega) (fun e => by have := (h1.lt i e.symm).1; omega)]
    exact h2'.block i hi
  · obtain ⟨x, hx1, hx2⟩ := h5 i d hd
    exact ⟨x, hx1, hx2.keep2 hg h6.blk hm⟩
theorem QInv.push {w wr w2 w3 : World} {p : Nat} {v u u' : Value} {S : List (Int × Int)} {D : List DEnt} {is : Bool} {x1 x2 : Int} {A : Option Addr} {c base : Nat} (h : QInv w wr p v S u D) (hx : Ext wr w2) (hc : w2.ownsRow base 28 2 (.slice A S.length c) S.length (its S)) (hcb : wr.heap.size ≤ base)
    (hg : w2.grownBy w3 u.ownBlock) (ho : ∀ vs : List Value, vs.length = D.length → w2.ownsRow w.heap.size 34 4 u D.length (dcells D vs) → w3.ownsRow w.heap.size 34 4 u' (D.length + 1) (dcells D vs ++ dcell (is, (x1, x2), S) (.slice A S.length c))) :
    QInv w w3 p v S u' (D ++ [(is, (x1, x2), S)]) := by
  have hk := KInv.push h.1 hx hc hcb hg ho
  obtain ⟨⟨_, _, vs, _, h4, _⟩, _⟩ := h.ext hx
  exact ⟨hk, blk_grown hg (h.2.ext hx).blk (done_ne h4 (h.2.ext hx).blk), hk.1, h.2.hb⟩

set_option maxRecDepth 100000 in
set_option maxHeartbeats 3200000 in
theorem queueAll_ok (A B : Option Addr) (n m c d : Nat) (xs : List (Int × Int)) (T : List Stp) (w : World) (hx : Row w 2 A n c (its xs)) (ht : Row w 4 B m d (sts T)) (hn : n ≤ 274877906944) (hm : m ≤ 274877906944) :
    Calls Try.prog 15 #[.slice A n c, .slice B m d] w fun e w' => ∃ C q, e = .returned (.slice C (m + 1) q) ∧ Dones w' C (m + 1) q (qall xs T) ∧ Ext w w' := by
  have HX := Lib.hid hx
  have HT := Lib.hid ht
  clear hx ht
  have hml1 : 1 ≤ maxLen := by unfold maxLen; omega
  go_enter Try.func15, Try.ntmps15
  go_wp2_with (at_builtin; refine Stand.out ?_)
  refine Stand.mk (wpList_apps2 elHeap Try.underlying23 rfl _ _ rfl w.heap.size (.slice (some ⟨w.heap.size, 0, none⟩) 0 0) 0 [] rfl (own_lit0 w _ _) A n c (its xs) rfl (HX.out.alloc _) (its_one _) (by omega) (by unfold maxLen; omega) (by simp) ?_)
  intro A1 c1 w1 HO1 HG1 HL1
  have ho1 := HO1.out
  rw [Nat.zero_add, List.nil_append] at ho1
  have hx1 : Ext w w1 := ((Ext.refl w).alloc _).grown HG1.out fun g hg => by simp [Value.ownBlock] at hg; omega
  have HO := Lib.hid ho1
  have HE1 := Lib.hid hx1
  clear HO1 HG1 HL1 ho1 hx1
  rw [Nat.zero_add]
  have HS0 : Hid (HSt (w1.alloc (.cells #[.slice A1 n c1] 48)) w.heap.size w1.heap.size n (.slice A1 n c1) xs) := Lib.hid ⟨heap_alloc_new w1 _, HO.out.alloc _, HE1.out.size⟩
  have HE2 : Hid (Ext w (w1.alloc (.cells #[.slice A1 n c1] 48))) := Lib.hid (HE1.out.alloc _)
  go_wp2_with fail
  refine (hinit_ok _ _ _ _ _ _ HS0.out (by omega)).mono ?_
  rintro e w2 ⟨rfl, hh2, hg2⟩
  have hx2 : Ext w w2 := HE2.out.grown hg2 fun g hg => (HO.out.lt g hg).1
  generalize w1.heap.size = p at hh2
  have HH2 := Lib.hid hh2
  have HX2 := Lib.hid hx2
  have HSL : Hid ((initL xs).length = n) := Lib.hid (by rw [initL_length, HX.out.its_len])
  have cp := cell_alloc_some hh2.cell (.cells #[] 28)
  clear hh2 hx2 hg2 HO HE1 HS0 HE2
  go_wp2_with (at_builtin; refine Stand.out ?_)
  refine Stand.mk (wpList_apps2 elItem Try.underlying48 rfl _ _ rfl w2.heap.size (.slice (some ⟨w2.heap.size, 0, none⟩) 0 0) 0 [] rfl (own_lit0 w2 _ _) A1 n c1 (its (initL xs)) rfl ((Row.own HH2.out.own).alloc _) (its_one _) (by omega) (by unfold maxLen; omega) (by simp) ?_)
  intro A6 q6 w3 HO6 HG6 HL6
  have ho6 := HO6.out
  rw [Nat.zero_add, List.nil_append] at ho6
  have hg6 : Ext w2 w3 := ((Ext.refl w2).alloc _).grown HG6.out fun g hg => by simp [Value.ownBlock] at hg; omega
  have hk6 : QInv w (w3.alloc (.cells #[.bool false, .int .i64 0, .int .i64 0, .slice A6 n q6] 34)) p (.slice A1 n c1) (initL xs) (.slice (some ⟨w3.heap.size, 0, none⟩) 1 1) [(false, (0, 0), initL xs)] := by
    have ho5 := HH2.out
    have hl := HSL.out
    refine ⟨?_, ?_⟩
    · rw [← hl] at ho5 ho6 ⊢
      exact KInv.start ho5.own HX2.out ho6 hg6
    · rw [← hl] at ho5 ⊢
      exact ho5.ext (hg6.alloc _)
  have HK6 := Lib.hid hk6
  rw [Nat.zero_add]
  clear hk6 ho6 hg6 HO6 HG6 HL6 cp
  go_wp2
  go_loopg [6, 23] m (fun kx u i wr => ∃ (j : Nat) (v : Value), j + kx = m ∧ i = .int .i64 (j : Int) ∧ Hid (QInv w wr p v (qend (initL xs) (T.take j)) u ((false, (0, 0), initL xs) :: qrows (initL xs) (T.take j))))
  case atStart => exact ⟨0, _, by omega, rfl, HK6.out⟩
  case round =>
    obtain ⟨j, v, hj, rfl, HK⟩ := hrel
    by_cases hjt : j < m
    · obtain ⟨b, o, s1, s2, s3, s4, rfl, hsk, hc1, hc2, hc3, hc4⟩ := (HT.out.ext HK.out.1.2.1).step_at (k := j) hjt
      have HTN := Lib.hid (take_snoc hsk.out)
      obtain ⟨S, hS⟩ : ∃ S, S = qend (initL xs) (T.take j) := ⟨_, rfl⟩
      rw [← hS] at HK
      have hSl : S.length ≤ n + m := by
        have h1 := qend_len (initL xs) (T.take j)
        rw [← hS, HSL.out, List.length_take] at h1
        omega
      have HS := Lib.hid hS
      clear hS
      obtain ⟨D, hD⟩ : ∃ D, D = (false, ((0 : Int), (0 : Int)), initL xs) :: qrows (initL xs) (T.take j) := ⟨_, rfl⟩
      rw [← hD] at HK
      have hDl : D.length = j + 1 := by rw [hD, List.length_cons, qrows_length, List.length_take, HT.out.sts_len]; omega
      have HD := Lib.hid hD
      have HDL := Lib.hid hDl
      clear hD hDl
      have hkw := HK.out.ext ((Ext.refl wr).alloc (.cells #[.int .i64 s1, .int .i64 s2, .int .i64 s3, .int .i64 s4] 30))
      have hkc := queued_ok _ w.heap.size p S.length v S (s1, (s2, s3), s4) hkw.2 (by omega) hkw.1.2.1.size
      unfold stpV at hkc
      simp only at hkc
      obtain ⟨S', x1, x2, is, hst⟩ : ∃ S' x1 x2 is, qstep S (s1, (s2, s3), s4) = (S', (x1, x2), is) := ⟨_, _, _, _, rfl⟩
      rw [hst] at hkc
      have hS'l : S'.length ≤ S.length + 1 := by have := qstep_len S (s1, (s2, s3), s4); rw [hst] at this; exact this
      have HST := Lib.hid hst
      have HKC := Lib.hid hkc
      have HKW := Lib.hid hkw
      clear hkc hkw hst
      go_wp2_with fail
      refine HKC.out.mono ?_
      rintro e w4 ⟨rfl, v', hh4, hg4, hm4⟩
      have hk2 := HKW.out.edit hh4 hg4 hm4
      obtain ⟨A7, c7, rfl, -⟩ := hk2.2.form
      have HK2 := Lib.hid hk2
      have HR7 := Lib.hid (Row.own hk2.2.own)
      have cp := hk2.2.cell
      have cpl := blk_lt hk2.2.blk
      clear hk2 hh4 hg4 hm4
      have hwz := HK2.out.1.2.1.size
      have hb1 : (0 + S'.length) * 16 ≤ 140737488355328 := by omega
      have hx1 : 0 + S'.length ≤ maxLen := by unfold maxLen; omega
      have hb2 : (D.length + 1) * 48 ≤ 140737488355328 := by rw [HDL.out]; omega
      have hx2 : D.length + 1 ≤ maxLen := by rw [HDL.out]; unfold maxLen; omega
      obtain ⟨vs, hvl, hu8, -⟩ := HK2.out.1.2.2
      have HVL := Lib.hid hvl
      have HU8 := Lib.hid hu8
      have HUN : Hid (some w4.heap.size ≠ u6.ownBlock) := fun e => by have := (hu8.lt _ e.symm).2; omega
      have HUP : Hid (some p ≠ u6.ownBlock) := Ne.symm (done_ne hu8 HK2.out.2.blk)
      clear hvl hu8
      go_wp2
      have cp1 := cell_alloc_some cp (.cells #[.int .i64 x1, .int .i64 x2] 28)
      have cp2 := cell_alloc_some cp1 (.cells #[] 28)
      go_region_held3 (fun w' => w'.cell? ⟨w4.heap.size, 0, none⟩ = some (.int .i64 x1) ∧ w'.cell? ⟨w4.heap.size, 1, none⟩ = some (.int .i64 x2) ∧ w'.cell? ⟨p, 0, none⟩ = some (.slice A7 S'.length c7))
        (first | exact ⟨HG9.out.cell (((Ext.refl w5).alloc _).cell_some (HG8.out.cell (a := ⟨w4.heap.size, 0, none⟩) (by go_simp) (by simp [Value.ownBlock]))) HUN.out, HG9.out.cell (((Ext.refl w5).alloc _).cell_some (HG8.out.cell (a := ⟨w4.heap.size, 1, none⟩) (by go_simp) (by simp [Value.ownBlock]))) HUN.out, HG9.out.cell (((Ext.refl w5).alloc _).cell_some (HG8.out.cell (a := ⟨p, 0, none⟩) cp2 (by simp [Value.ownBlock]; omega))) HUP.out⟩ | exact ⟨HG8.out.cell (by go_simp) (by simp [Value.ownBlock]), HG8.out.cell (by go_simp) (by simp [Value.ownBlock]), HG8.out.cell cp2 (by simp [Value.ownBlock]; omega)⟩ | exact ⟨by go_simp, by go_simp, cp2⟩ | exact ⟨by go_simp, by go_simp, cp1⟩ | go_keep)
        (first | (refine step_apps2 elItem Try.underlying48 rfl (.tmp 35) (.tmp 36) rfl (w4.heap.size + 1) (.slice (some ⟨w4.heap.size + 1, 0, none⟩) 0 0) 0 [] rfl (own_ext (own_lit0' (w4.alloc (.cells #[.int .i64 x1, .int .i64 x2] 28)) _ _ _ (by go_simp)) (Ext.refl _).drew) A7 S'.length c7 (its S') rfl (HR7.out.ext (((Ext.refl w4).alloc _).alloc _).drew) (its_one _) hb1 hx1 (by go_simp) ?_; intro A8 c8 w5 HO8 HG8 HL8)
               | (refine step_apps elDone rfl (.tmp 32) (.tmp 39) rfl w.heap.size u6 D.length (dcells D vs) rfl (own_ext (own_over (g := w4.heap.size + 1) HU8.out (((Ext.refl w4).alloc _).alloc _).drew HG8.out (Nat.le_succ _)) ((Ext.refl w5).alloc _)) (some ⟨w5.heap.size, 0, none⟩) 1 1 [.bool is, .int .i64 x1, .int .i64 x2, .slice A8 S'.length c8] rfl (Row.fresh' w5 _ 4 #[.bool is, .int .i64 x1, .int .i64 x2, .slice A8 S'.length c8] 1 w5.heap.size rfl rfl hml1) (by simp [Value.oneCell']) hb2 hx2 (HK2.out.1.2.1.trans ((ext_own (g := w4.heap.size + 1) (((Ext.refl w4).alloc _).alloc _).drew HG8.out rfl (Nat.le_succ _)).alloc _)).size ?_; intro A9 c9 w6 HO9 HG9 HL9))
      go_wp2
      go_roundg (gk - 1)
      case measure => omega
      case rel =>
        refine ⟨j + 1, .slice A7 S'.length c7, by omega, by go_num, ?_⟩
        have hx4 := ext_own (g := w4.heap.size + 1) (((Ext.refl w4).alloc _).alloc _).drew HG8.out rfl (Nat.le_succ _)
        have ho8 := HO8.out
        rw [Nat.zero_add, List.nil_append] at ho8
        have hp := QInv.push (is := is) (x1 := x1) (x2 := x2) HK2.out (hx4.alloc _) (own_ext ho8 ((Ext.refl w5).alloc _)) (Nat.le_succ _) HG9.out (u' := .slice A9 (D.length + 1) c9) (fun vs' _ h' => ?_)
        · rw [HTN.out, qend_snoc, qrows_snoc, ← HS.out, HST.out, ← List.cons_append, ← HD.out]
          exact hp
        · have h9 := HO9.out
          have hu := own_ext (own_over (g := w4.heap.size + 1) HU8.out (((Ext.refl w4).alloc _).alloc _).drew HG8.out (Nat.le_succ _)) ((Ext.refl w5).alloc (.cells #[.bool is, .int .i64 x1, .int .i64 x2, .slice A8 S'.length c8] 34))
          rw [own_uniq h' hu]
          exact h9
    · obtain rfl : j = m := by omega
      have e2 : T.take j = T := List.take_of_length_le (by rw [HT.out.sts_len]; omega)
      rw [e2] at HK
      obtain ⟨C, q, rfl, hd⟩ := HK.out.1.dones
      have HDD := Lib.hid hd
      have HXX := Lib.hid HK.out.1.2.1
      clear hd HK e2
      go_wp2
      have hkl : ((false, ((0 : Int), (0 : Int)), initL xs) :: qrows (initL xs) T).length = j + 1 := by rw [List.length_cons, qrows_length, HT.out.sts_len]
      exact bodyPost_ret (v := .slice C ((false, ((0 : Int), (0 : Int)), initL xs) :: qrows (initL xs) T).length q) (by simp [results, Try.results15, go_sem]) rfl ⟨C, q, by rw [hkl], by have := HDD.out; rw [hkl] at this; exact this, HXX.out⟩
end Go.Proofs.Ytefeedpeiiaanaa
