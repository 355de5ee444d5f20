/- The walk of laws.FnEditsUndone: it returns true. The statement itself stands in the next file. -/
import Derived.Test.YtaimljagflnfpaaRecsCut
import Derived.Test.YtaimljagflnfpaaUndoPlain
import Derived.Test.YtaimljagflnfpaaFnEditsMapped
import Derived.Test.YtaimljagflnfpaaCompactOf
import Derived.Deep.RegionHeld3
import Derived.Deep.CutBlock
import Derived.Deep.DeepCutAuto
namespace Go.Proofs.Ytaimljagflnfpaa
open Go.RowKit

theorem evals_at (E : List Edt) : ∀ (k : Nat) {e : Edt}, E[k]? = some e → e.2.2.2.length ≤ evals E := by
  induction E with
  | nil => intro k e h; cases h
  | cons d T ih =>
    intro k e h
    rcases k with _ | k
    · injection h with h
      subst h
      simp only [evals]; omega
    · have := ih k h
      simp only [evals]; omega
theorem blk4 {w : World} {g : Nat} {t : TypeId} {x0 x1 x2 x3 : Value} (h : w.heap[g]? = some (.cells #[x0, x1, x2, x3] t (0, 0))) (y0 y1 y2 y3 : Value) :
    ((((w.setCell ⟨g, 0, none⟩ y0).setCell ⟨g, 1, none⟩ y1).setCell ⟨g, 2, none⟩ y2).setCell ⟨g, 3, none⟩ y3).heap[g]? = some (.cells #[y0, y1, y2, y3] t (0, 0)) := by
  have h2 := blk_set (blk_set (blk_set (blk_set h 0 y0) 1 y1) 2 y2) 3 y3
  simpa using h2
theorem ext4 {w w1 : World} {g : Nat} (h : Ext w w1) (hg : w.heap.size ≤ g) (y0 y1 y2 y3 : Value) :
    Ext w ((((w1.setCell ⟨g, 0, none⟩ y0).setCell ⟨g, 1, none⟩ y1).setCell ⟨g, 2, none⟩ y2).setCell ⟨g, 3, none⟩ y3) :=
  (((h.setCell hg _).setCell hg _).setCell hg _).setCell hg _
theorem OffI.set {w : World} {xs : List Int} {v : Value} (h : OffI w none xs v) {g : Nat} {cs : Array Value} (hb : w.heap[g]? = some (.cells cs 29 (0, 0))) (i : Nat) (u : Value) : OffI (w.setCell ⟨g, i, none⟩ u) none xs v := by
  have hg : w.grownBy (w.setCell ⟨g, i, none⟩ u) (some g) := ⟨rfl, rfl, rfl, by simp [World.setCell], fun k _ hk => Below.heap_setCell w ⟨g, i, none⟩ u k (fun e => hk (by rw [e]))⟩
  refine h.keep hg (fun b cs' hb' _ e => ?_) (.inl rfl)
  injection e with e
  subst e
  rw [hb] at hb'
  injection hb' with hb'
  injection hb' with _ h2
  exact absurd h2 (by decide)
theorem off4 {w : World} {xs : List Int} {v : Value} (h : OffI w none xs v) {g : Nat} {x0 x1 x2 x3 : Value} (hb : w.heap[g]? = some (.cells #[x0, x1, x2, x3] 29 (0, 0))) (y0 y1 y2 y3 : Value) :
    OffI ((((w.setCell ⟨g, 0, none⟩ y0).setCell ⟨g, 1, none⟩ y1).setCell ⟨g, 2, none⟩ y2).setCell ⟨g, 3, none⟩ y3) none xs v :=
  (((h.set hb 0 y0).set (blk_set hb 0 y0) 1 y1).set (blk_set (blk_set hb 0 y0) 1 y1) 2 y2).set (blk_set (blk_set (blk_set hb 0 y0) 1 y1) 2 y2) 3 y3
theorem u_held {w : World} {g : Nat} {x0 x1 x2 x3 y0 y1 y2 y3 : Value} (h : w.heap[g]? = some (.cells #[x0, x1, x2, x3] 29 (0, 0))) (k : w.heap[g + 1]? = some (.cells #[y0, y1, y2, y3] 29 (0, 0))) :
    w.cell? ⟨g, 1, none⟩ = some x1 ∧ w.cell? ⟨g, 2, none⟩ = some x2 ∧ w.cell? ⟨g, 3, none⟩ = some x3 ∧ w.cell? ⟨g + 1, 0, none⟩ = some y0 ∧ w.frozen? ⟨g + 1, 0, none⟩ = false ∧ w.cell? ⟨g + 1, 1, none⟩ = some y1 ∧ w.frozen? ⟨g + 1, 1, none⟩ = false ∧ w.cell? ⟨g + 1, 2, none⟩ = some y2 ∧ w.frozen? ⟨g + 1, 2, none⟩ = false ∧ w.cell? ⟨g + 1, 3, none⟩ = some y3 ∧ w.frozen? ⟨g + 1, 3, none⟩ = false := by
  simp [World.cell?, World.frozen?, h, k]
theorem off_fresh {w : World} {base n c : Nat} {C : Option Addr} {xs : List Int} (h : w.ownsRow base 3 1 (.slice C n c) n (ints xs)) : OffI w none xs (.slice C n c) := OffI.own h (by
  cases C with
  | none => exact .inr rfl
  | some a => exact .inl (by simp [Value.ownBlock]))
theorem part_off (A : Option Addr) (n c : Nat) (i j : Int) (xs : List Int) (w : World) (hx : Row w 1 A n c (ints xs)) (hi : 0 ≤ i) (hj0 : 0 ≤ j) (hj : j ≤ n) (hs : n ≤ 1099511627776) :
    Calls Try.prog 24 #[.slice A n c, .int .i64 i, .int .i64 j] w fun e w' => ∃ C k, e = .returned (.slice C ((xs.take j.toNat).drop i.toNat).length k) ∧ OffI w' none ((xs.take j.toNat).drop i.toNat) (.slice C ((xs.take j.toNat).drop i.toNat).length k) ∧ Ext w w' :=
  (part_own A n c i j xs w hx hi hj0 hj hs).mono fun _ _ ⟨C, m, k, h1, h2, h3⟩ => by
    obtain ⟨A', c', e, hr⟩ := own_form h2
    obtain rfl : m = ((xs.take j.toNat).drop i.toNat).length := hr.ints_len.symm
    exact ⟨C, k, h1, off_fresh h2, h3⟩
/-- A row of slices of integers, each as it read in the world w2. -/
def LRec (w2 wr : World) (base : Nat) (u : Value) (L : List (List Int)) : Prop :=
  ∃ vs : List Value, vs.length = L.length ∧ wr.ownsRow base 22 1 u L.length vs ∧ ∀ (i : Nat) (xs : List Int), L[i]? = some xs → ∃ B q, vs[i]? = some (.slice B xs.length q) ∧ Row w2 1 B xs.length q (ints xs)
theorem LRec.ext {w2 wr w1 : World} {base : Nat} {u : Value} {L : List (List Int)} (h : LRec w2 wr base u L) (hx : Ext wr w1) : LRec w2 w1 base u L := by
  obtain ⟨vs, h1, h2, h3⟩ := h
  exact ⟨vs, h1, own_ext h2 hx, h3⟩
theorem LRec.keep {w2 wr w1 : World} {base base' n : Nat} {u v : Value} {L : List (List Int)} {xs : List Value} (h : LRec w2 wr base u L) (hv : wr.ownsRow base' 29 4 v n xs) (hg : wr.grownBy w1 v.ownBlock) : LRec w2 w1 base u L := by
  obtain ⟨vs, h1, h2, h3⟩ := h
  exact ⟨vs, h1, h2.kept hg (own_own_ne h2 hv (by decide)), h3⟩
theorem LRec.at_ {w2 wr : World} {base n c : Nat} {A : Option Addr} {L : List (List Int)} (h : LRec w2 wr base (.slice A n c) L) {k : Nat} {xs : List Int} (hk : L[k]? = some xs) : ∃ b o B q, A = some ⟨b, o, none⟩ ∧ k < n ∧ wr.cell? ⟨b, o + k, none⟩ = some (.slice B xs.length q) ∧ Row w2 1 B xs.length q (ints xs) := by
  obtain ⟨vs, h1, h2, h3⟩ := h
  have hkl := (List.getElem?_eq_some_iff.1 hk).1
  obtain ⟨A', c', e, hr⟩ := own_form h2
  injection e with e1 e2 e3
  subst e1 e2 e3
  obtain ⟨b, o, rfl, hc⟩ := hr.2.2.2 (by omega)
  obtain ⟨B, q, h4, h5⟩ := h3 k xs hk
  exact ⟨b, o, B, q, rfl, hkl, hc k _ h4, h5⟩
theorem LRec.push {w2 wr w3 w4 : World} {base : Nat} {u u' : Value} {L : List (List Int)} {xs : List Int} {B : Option Addr} {q : Nat} (h : LRec w2 wr base u L) (hx : Ext wr w3) (hr : Row w2 1 B xs.length q (ints xs))
    (ho : ∀ vs : List Value, vs.length = L.length → w3.ownsRow base 22 1 u L.length vs → w4.ownsRow base 22 1 u' (L.length + 1) (vs ++ [.slice B xs.length q])) : LRec w2 w4 base u' (L ++ [xs]) := by
  obtain ⟨vs, h1, h2, h3⟩ := h
  refine ⟨vs ++ [.slice B xs.length q], by simp [h1], by rw [List.length_append]; exact ho vs h1 (own_ext h2 hx), fun i ys hy => ?_⟩
  rcases Nat.lt_or_ge i L.length with hi | hi
  · rw [List.getElem?_append_left hi] at hy
    obtain ⟨B', q', h4, h5⟩ := h3 i ys hy
    exact ⟨B', q', by rw [List.getElem?_append_left (by omega)]; exact h4, h5⟩
  · rw [List.getElem?_append_right hi] at hy
    have hi0 : i = L.length := by
      rcases Nat.eq_or_lt_of_le hi with e | e
      · exact e.symm
      · rw [List.getElem?_eq_none (by simp; omega)] at hy; cases hy
    subst hi0
    simp at hy
    subst hy
    exact ⟨B, q, by rw [List.getElem?_append_right (by omega)]; simp [h1], hr⟩
/-- The lists behind the edits of a script. -/
def behindP (xs : List Int) (E : List Edt) (k : Nat) : List (List Int) := (List.range k).map fun j => eend xs (E.take j)
theorem behindP_succ (xs : List Int) (E : List Edt) (k : Nat) : behindP xs E (k + 1) = behindP xs E k ++ [eend xs (E.take k)] := by
  unfold behindP
  rw [List.range_succ, List.map_append]
  rfl
theorem behindP_length (xs : List Int) (E : List Edt) (k : Nat) : (behindP xs E k).length = k := by simp [behindP]
theorem behindP_get (xs : List Int) (E : List Edt) {k j : Nat} (h : j < k) : (behindP xs E k)[j]? = some (eend xs (E.take j)) := by
  simp [behindP, h]

set_option maxRecDepth 100000 in
set_option maxHeartbeats 6400000 in
theorem fnEditsUndone_ok (A0 A1 A2 A3 A4 : Option Addr) (n0 n1 n2 n3 n4 c0 c1 c2 c3 c4 : Nat) (xs ops fr to_ : List Int) (vals : List (List Int)) (w : World) (h0 : Row w 1 A0 n0 c0 (ints xs)) (h1 : Row w 1 A1 n1 c1 (ints ops)) (h2 : Row w 1 A2 n2 c2 (ints fr)) (h3 : Row w 1 A3 n3 c3 (ints to_)) (h4 : Lists w A4 n4 c4 vals)
    (hsum : (n0 + vals.flatten.length) + (n1 + 1) ≤ 1048576) :
    Calls Try.prog 13 #[.slice A0 n0 c0, .slice A1 n1 c1, .slice A2 n2 c2, .slice A3 n3 c3, .slice A4 n4 c4] w fun e w' => e = .returned (.bool true) ∧ Ext w w' := by
  have hs := script_ok A1 A2 A3 A4 n1 n2 n3 n4 c1 c2 c3 c4 ops fr to_ vals w h1 h2 h3 h4 (by omega) (by omega)
  have hev := evals_le ops fr to_ vals
  have hel := scriptP_length ops fr to_ vals
  rw [h1.ints_len] at hel
  obtain ⟨E, hE⟩ : ∃ E, E = scriptP ops fr to_ vals := ⟨_, rfl⟩
  rw [← hE] at hs hev hel
  have hxn := h0.ints_len
  have hSZ : ∀ k, (eend xs (E.take k)).length ≤ 1048576 := fun k => by
    have g1 := eend_length xs (E.take k)
    have g2 := evals_take E k
    omega
  have hpl := undos_plain xs E
  have hUE : (eend xs E).length + evals (undos xs E) ≤ 274877906944 := by
    have g1 := undos_evals xs E (xs.length + evals E) (Nat.le_refl _)
    have g2 := eend_length xs E
    have g3 : (n1 + 1) * (n0 + vals.flatten.length) ≤ 274877906944 := prod_bound (by omega)
    have g4 : E.length * (xs.length + evals E) ≤ n1 * (n0 + vals.flatten.length) := Nat.mul_le_mul (by omega) (by omega)
    rw [Nat.add_mul, Nat.one_mul] at g3
    omega
  have H0 := Lib.hid h0
  have HS := Lib.hid hs
  have HEV := Lib.hid hev
  have HEL := Lib.hid hel
  have HXN := Lib.hid hxn
  have HSZ := Lib.hid hSZ
  have HPL := Lib.hid hpl
  have HUE := Lib.hid hUE
  have HSUM := Lib.hid hsum
  have hn0 : n0 ≤ 1048576 := by omega
  have hn1 : n1 ≤ 1048576 := by omega
  clear h0 h1 h2 h3 h4 hs hev hel hE hxn hSZ hpl hUE hsum
  go_enter Try.func13, Try.ntmps13
  go_wp2_with fail
  refine HS.out.mono ?_
  rintro e w1 ⟨u, rfl, k1, k2⟩
  obtain ⟨C0, q0, rfl, k3⟩ := script_form k1
  rw [HEL.out] at k3 ⊢
  have HT := Lib.hid k3
  have HW1 := Lib.hid k2
  clear k1 k2 k3
  go_wp2_with fail
  refine (editsAll_ok A0 C0 n0 n1 c0 q0 xs 0 0 E w1 (H0.out.ext HW1.out) HT.out (by decide) (by have := HEV.out; have := HSUM.out; omega) (by omega)).mono ?_
  rintro e w2 ⟨C1, q1, D1, rfl, k1, k2, k3, k4⟩
  have HD1 := Lib.hid k1
  have HM1 := Lib.hid k2
  have HW2 := Lib.hid (HW1.out.trans k4)
  have HT2 := Lib.hid (Recs.ext HT.out k4)
  clear k1 k2 k3 k4
  have hl0 : LRec w2 (w2.alloc (.cells #[.slice A0 n0 c0] 22)) w2.heap.size (.slice (some ⟨w2.heap.size, 0, none⟩) 1 1) (behindP xs E 1) := by
    refine ⟨[.slice A0 n0 c0], by simp [behindP_length], ?_, fun i ys hy => ?_⟩
    · rw [behindP_length]
      exact World.ownsRow_lit w2 #[.slice A0 n0 c0] 1 (Nat.le_refl _) (by unfold maxLen; omega) rfl
    · rcases i with _ | i
      · rw [behindP_get xs E (by omega)] at hy
        injection hy with hy
        subst hy
        exact ⟨A0, c0, by simp [eend, HXN.out], by have := H0.out.ext HW2.out; simp only [List.take_zero, eend, HXN.out]; exact this⟩
      · rw [List.getElem?_eq_none (by rw [behindP_length]; omega)] at hy; cases hy
  have HL0 := Lib.hid hl0
  clear hl0
  go_wp2
  go_loopg [13, 42] n1 (fun kx v i wr => ∃ k : Nat, k + kx = n1 ∧ i = .int .i64 (k : Int) ∧ Hid (LRec w2 wr w2.heap.size v (behindP xs E (k + 1))) ∧ Hid (Ext w2 wr))
  case atStart => exact ⟨0, by omega, rfl, HL0, (Ext.refl w2).alloc _⟩
  case round =>
    obtain ⟨k, hk, rfl, HL, HE⟩ := hrel
    by_cases hlt : k < n1
    · obtain ⟨b1, o1, p1, l1, s1, B1, t1, rfl, hd1, d0, d1, d2, HR9⟩ := erows_at HD1.out (k := k) hlt
      have a0 := HE.out.cell_some d0
      have a1 := HE.out.cell_some d1
      have a2 := HE.out.cell_some d2
      clear d0 d1 d2
      have hle : l1 = eend xs (E.take (k + 1)) := by
        obtain ⟨g1, g2⟩ := erows_get xs E k _ (List.getElem?_eq_getElem (by rw [HEL.out]; exact hlt))
        have g3 := rows_at HM1.out hd1.out
        rw [g1] at g3
        injection g3 with g3
        injection g3 with _ g3
        rw [← g3, ← g2]
      have HLE := Lib.hid hle
      obtain ⟨vs0, hvl, hu8, -⟩ := HL.out
      rw [behindP_length] at hu8
      have HU8 := Lib.hid hu8
      have hb2 : (k + 1 + 1) * 24 ≤ 140737488355328 := by omega
      have hx2 : k + 1 + 1 ≤ maxLen := by unfold maxLen; omega
      have hml1 : 1 ≤ maxLen := by unfold maxLen; omega
      have hz := HE.out.size
      have HXX := Lib.hid (((Ext.refl wr).alloc (.cells #[.bool p1, .slice B1 l1.length t1, .bool s1] 41)).alloc (.cells #[.slice B1 l1.length t1] 22))
      clear hle hvl hu8
      go_wp2_with (with_reducible refine stand_at 50 ?_)
      refine Stand.mk (wpList_apps elLists rfl _ _ rfl w2.heap.size u13 (k + 1) vs0 rfl (own_ext HU8.out HXX.out) _ 1 1 [.slice B1 l1.length t1] rfl (Row.fresh' _ _ 1 #[.slice B1 l1.length t1] 1 _ (by simp) rfl hml1) (by simp [Value.oneCell']) hb2 hx2 (by simp; omega) ?_)
      intro A9 c9 w5 HO9 HG9 HL9
      go_wp2
      go_roundg (gk - 1)
      case measure => omega
      case rel =>
        refine ⟨k + 1, by omega, by go_num, ?_, (HE.out.trans HXX.out).grown HG9.out fun g hg => (HU8.out.lt g hg).1⟩
        have hp := LRec.push (xs := l1) HL.out HXX.out HR9.out (u' := .slice A9 (k + 1 + 1) c9) (fun vs' _ h' => by rw [behindP_length] at h' ⊢; rw [own_uniq h' (own_ext HU8.out HXX.out)]; exact HO9.out)
        rw [behindP_succ, ← HLE.out]
        exact hp
    · obtain rfl : k = n1 := by omega
      obtain ⟨CL, qL, rfl, -⟩ : ∃ A c, u13 = .slice A (k + 1) c ∧ True := by
        obtain ⟨vs, _, h2, _⟩ := HL.out
        rw [behindP_length] at h2
        obtain ⟨A, c, e, _⟩ := own_form h2
        exact ⟨A, c, e, trivial⟩
      have hz0 := HE.out.size
      go_wp2
      go_loopg [16, 17] k (fun kx v i wr => ∃ i0 : Int, i = .int .i64 i0 ∧ i0 = (kx : Int) - 1 ∧ kx ≤ k ∧ Hid (OwnEdts wr w2.heap.size none v (undos (eend xs (E.take kx)) (E.drop kx))) ∧ Hid (LRec w2 wr w2.heap.size (.slice CL (k + 1) qL) (behindP xs E (k + 1))) ∧ Hid (Ext w2 wr))
      case atStart => exact ⟨_, rfl, rfl, Nat.le_refl _, by rw [List.drop_of_length_le (by rw [HEL.out]; exact Nat.le_refl _)]; exact OwnRecs.nil _ _ _ _ (own_up (own_lit0 wr _ _) hz0), HL.out.ext ((Ext.refl _).alloc _), HE.out.alloc _⟩
      case round =>
        obtain ⟨i0, rfl, hi0, hgk, HB, HL2, HE2⟩ := hrel
        by_cases hg : gk = 0
        · obtain rfl : i0 = -1 := by omega
          have hb := HB.out
          rw [hg, List.take_zero, List.drop_zero] at hb
          simp only [eend] at hb
          obtain ⟨CU, qU, rfl, hrec⟩ := OwnRecs.recs hb
          rw [undos_length, HEL.out] at hrec ⊢
          have HU := Lib.hid hrec
          obtain ⟨b2, o2, Bb, qb, hCL, _, hl1, hrb⟩ := HL2.out.at_ (behindP_get xs E (k := k + 1) (j := k) (by omega))
          subst hCL
          have hek : E.take k = E := List.take_of_length_le (by rw [HEL.out]; exact Nat.le_refl _)
          rw [hek] at hl1 hrb
          obtain ⟨l0, hl0⟩ : ∃ l0, l0 = eend xs E := ⟨_, rfl⟩
          have hpl := HPL.out.2
          have hue := HUE.out
          rw [← hl0] at hl1 hrb hpl hue
          have HC := Lib.hid (editsAll_ok Bb CU l0.length k qb qU l0 0 0 (undos xs E) wr (hrb.ext HE2.out) HU.out (by decide) hue (by omega))
          have HPL3 := Lib.hid hpl
          have sn : (0 : Int) ≤ (k : Int) := by omega
          have sl : (k : Int) < (k : Int) + 1 := by omega
          have sm : k < k + 1 := by omega
          clear hb hrec hrb hek hl0 hpl hue hg hi0 HB
          go_wp2_with fail
          refine HC.out.mono ?_
          rintro e w3 ⟨C3, q3, D3, rfl, k1, k2, -, k4⟩
          have HD3 := Lib.hid k1
          have HM3 := Lib.hid k2
          have HW3 := Lib.hid k4
          clear k1 k2 k4 sn sl sm hl1
          have sb : ((k : Int) != (k : Int)) = false := by simp
          go_wp2
          go_loopg [196] k (fun kx s wx => ∃ j : Nat, s = .int .i64 (j : Int) ∧ j + kx = k ∧ Hid (Ext w3 wx))
          case atStart => exact ⟨0, rfl, by omega, Ext.refl _⟩
          case round =>
            obtain ⟨j, rfl, hjk, HE3⟩ := hrel
            obtain ⟨wx, rfl⟩ : ∃ wx : World, wx = wr := ⟨_, rfl⟩
            by_cases hjt : j < k
            · obtain ⟨b4, o4, p4, l4, s4, B4, t4, rfl, hd4, a0, a1, a2, HR4⟩ := erows_at (Recs.ext HD3.out HE3.out) (k := j) hjt
              obtain ⟨b3, o3, B5, q5, hCL, _, hl5, hr5⟩ := HL2.out.at_ (behindP_get xs E (k := k + 1) (j := k - 1 - j) (by omega))
              injection hCL with hCL
              injection hCL with hCL1 hCL2
              subst hCL1 hCL2
              obtain ⟨l5, hl5e⟩ : ∃ l5, l5 = eend xs (E.take (k - 1 - j)) := ⟨_, rfl⟩
              have hm := rows_at HM3.out hd4.out
              rw [HPL3.out, List.getElem?_map, List.getElem?_range (by rw [HEL.out]; exact hjt)] at hm
              simp only [Option.map_some, HEL.out] at hm
              rw [← hl5e] at hm hl5 hr5
              injection hm with hm
              injection hm with hp hl
              subst hp hl
              have HR5 := Lib.hid (hr5.ext ((HE2.out.trans HW3.out).trans HE3.out))
              have hl6 := (HW3.out.trans HE3.out).cell_some hl5
              have w1' : IntKind.i64.wrap ((k : Int) - 1) = (k : Int) - 1 := IntWalk.i64_in _ (by omega)
              have w2' : IntKind.i64.wrap ((k : Int) - 1 - (j : Int)) = (k : Int) - 1 - (j : Int) := IntWalk.i64_in _ (by omega)
              have sn : (0 : Int) ≤ (k : Int) - 1 - (j : Int) := by omega
              have sl : (k : Int) - 1 - (j : Int) < (k : Int) + 1 := by omega
              have st : ((k : Int) - 1 - (j : Int)).toNat = k - 1 - j := by omega
              have sm : k - 1 - j < k + 1 := by omega
              clear hd4 hl5e hr5 hl5
              go_upto_region 39 with (fail)
              obtain ⟨W6, hW6⟩ : ∃ W6, W6 = wx.alloc (.cells #[.bool false, .slice B4 l5.length t4, .bool s4] 41) := ⟨_, rfl⟩
              rw [← hW6]
              have HX6 : Hid (Ext wx W6) := by unfold Hid; rw [hW6]; exact (Ext.refl wx).alloc _
              have HB6 : Hid (W6.heap[wx.heap.size]? = some (.cells #[.bool false, .slice B4 l5.length t4, .bool s4] 41 (0, 0))) := by unfold Hid; rw [hW6]; exact heap_alloc_new wx _
              have m0 : W6.cell? ⟨wx.heap.size, 0, none⟩ = some (.bool false) := by simp [World.cell?, HB6.out]
              have m1 : W6.cell? ⟨wx.heap.size, 1, none⟩ = some (.slice B4 l5.length t4) := by simp [World.cell?, HB6.out]
              have m2 := HX6.out.cell_some hl6
              clear hW6 hl6 a0 a1 a2
              go_quiet ((go_at_call 16; exact Calls.quiet_of (same_quiet _ _ _ _ _ _ l5 _ (HR4.out.ext (HX6.out.drewN _)) (HR5.out.ext (HX6.out.drewN _)))))
              go_wp2
              go_roundg (gk - 1)
              case measure => omega
              case rel => exact ⟨j + 1, by go_num, by omega, (HE3.out.trans HX6.out).drewN _⟩
            · obtain rfl : j = k := by omega
              go_wp2
              exact bodyPost_ret (v := .bool true) (by simp [results, Try.results13, go_sem]) rfl ⟨rfl, HW2.out.trans (HE2.out.trans (HW3.out.trans HE3.out))⟩
        · obtain ⟨m, rfl⟩ : ∃ m, gk = m + 1 := ⟨gk - 1, by omega⟩
          obtain rfl : i0 = (m : Int) := by omega
          clear hi0 hg
          obtain ⟨b, o, op, i, j, vs, V, q, rfl, he, hc1, hc2, hc3, hc4, hrow⟩ := edts_at (Recs.ext HT2.out HE2.out) (k := m) (by omega)
          obtain ⟨b1, o1, p, l1, s1, B1, t1, rfl, hd1, d0, d1, d2, HR9⟩ := erows_at HD1.out (k := m) (by omega)
          have hd0 := HE2.out.cell_some d0
          obtain ⟨b2, o2, Bb, qb, hCL, _, hl1, hrb⟩ := HL2.out.at_ (behindP_get xs E (k := k + 1) (j := m) (by omega))
          subst hCL
          obtain ⟨b3, o3, Ba, qa, hCL, _, hl2, hra⟩ := HL2.out.at_ (behindP_get xs E (k := k + 1) (j := m + 1) (by omega))
          injection hCL with hCL
          injection hCL with hCL1 hCL2
          subst hCL1 hCL2
          obtain ⟨l, hl⟩ : ∃ l, l = eend xs (E.take m) := ⟨_, rfl⟩
          obtain ⟨l', hl'⟩ : ∃ l', l' = eend xs (E.take (m + 1)) := ⟨_, rfl⟩
          obtain ⟨g1, g2⟩ := erows_get xs E m _ he.out
          have g3 := rows_at HM1.out hd1.out
          rw [g1] at g3
          injection g3 with g3
          injection g3 with hp _
          rw [← hl] at hp hl1 hrb g2
          rw [← hl'] at hl2 hra g2
          have hls := HSZ.out m
          have hls' := HSZ.out (m + 1)
          rw [← hl] at hls
          rw [← hl'] at hls'
          have hvl := evals_at E m he.out
          have HEV9 := HEV.out
          have HSUM9 := HSUM.out
          have hvl2 : vs.length ≤ 1048576 := by have h : vs.length ≤ evals E := hvl; omega
          clear hvl HEV9 HSUM9
          obtain ⟨U, hU⟩ : ∃ U, U = undos l' (E.drop (m + 1)) := ⟨_, rfl⟩
          rw [← hl', ← hU] at HB
          have hUl : U.length ≤ 1048576 := by rw [hU, undos_length, List.length_drop, HEL.out]; omega
          have HUN : Hid (undos l (E.drop m) = U ++ [undoP l (op, i, j, vs)]) := Lib.hid (by
            have e1 : E.drop m = (op, i, j, vs) :: E.drop (m + 1) := by
              obtain ⟨h1, h2⟩ := List.getElem?_eq_some_iff.1 he.out
              rw [← h2]; exact List.drop_eq_getElem_cons h1
            rw [e1]
            simp only [undos]
            rw [← g2, ← hU])
          have HLM := Lib.hid hl
          have HP := Lib.hid hp
          have HG2 := Lib.hid g2
          have HRB := Lib.hid hrb
          have HRA := Lib.hid hra
          have HUL := Lib.hid hUl
          have hb2 : (U.length + 1) * 48 ≤ 140737488355328 := by omega
          have hx2 : U.length + 1 ≤ maxLen := by unfold maxLen; omega
          have HB2 := Lib.hid hb2
          have HX2 := Lib.hid hx2
          clear hb2 hx2
          obtain ⟨vsU, hvU, huU, -⟩ := HB.out
          have HU8 := Lib.hid huU
          have sw : IntKind.i64.wrap ((m : Int) + 1) = (m : Int) + 1 := IntWalk.i64_in _ (by omega)
          have sn : (0 : Int) ≤ (m : Int) + 1 := by omega
          have sl : (m : Int) + 1 < ((k : Int) + 1) := by omega
          have st : ((m : Int) + 1).toNat = m + 1 := by omega
          have sm : m + 1 < k + 1 := by omega
          have sm2 : m < k + 1 := by omega
          have sm3 : m < k := by omega
          have sn0 : (0 : Int) ≤ (m : Int) := by omega
          have sl2 : (m : Int) < (k : Int) + 1 := by omega
          have sl3 : (m : Int) < (k : Int) := by omega
          clear hl hl' hp g1 g2 hrb hra hU hUl d0 d1 d2 hvU huU hd1
          go_wp2
          go_region_held3 (fun w' => w'.cell? ⟨b, o + m * 4, none⟩ = some (.int .i64 op) ∧ w'.cell? ⟨b, o + m * 4 + 1, none⟩ = some (.int .i64 i) ∧ w'.cell? ⟨b, o + m * 4 + 2, none⟩ = some (.int .i64 j) ∧ w'.cell? ⟨b, o + m * 4 + 3, none⟩ = some (.slice V vs.length q) ∧ w'.cell? ⟨b2, o2 + m, none⟩ = some (.slice Bb l.length qb) ∧ w'.cell? ⟨b2, o2 + (m + 1), none⟩ = some (.slice Ba l'.length qa))
            (first | go_keep | exact ⟨hc1, hc2, hc3, hc4, hl1, hl2⟩ | exact ⟨cell_alloc_some hc1 _, cell_alloc_some hc2 _, cell_alloc_some hc3 _, cell_alloc_some hc4 _, cell_alloc_some hl1 _, cell_alloc_some hl2 _⟩)
            ((fail))
          have hml1 : 1 ≤ maxLen := by unfold maxLen; omega
          have hz2 := HE2.out.size
          clear sw sn sl st sm sm2 hc1 hc2 hc3 hc4 hl1 hl2
          go_upto_block 4 with (fail)
          obtain ⟨W5, hW5⟩ : ∃ W5, W5 = ((wr.alloc (.cells #[.int .i64 op, .int .i64 i, .int .i64 j, .slice V vs.length q] 29)).alloc (.cells #[.int .i64 (-1), .int .i64 0, .int .i64 0, .slice none 0 0] 29)).drew := ⟨_, rfl⟩
          rw [← hW5]
          have HX5 : Hid (Ext wr W5) := by unfold Hid; rw [hW5]; exact (((Ext.refl wr).alloc _).alloc _).drew
          have HB18 : Hid (W5.heap[wr.heap.size]? = some (.cells #[.int .i64 op, .int .i64 i, .int .i64 j, .slice V vs.length q] 29 (0, 0))) := by unfold Hid; rw [hW5]; exact blk_ext (((Ext.refl _).alloc _).drew) (heap_alloc_new wr _)
          have HB21 : Hid (W5.heap[wr.heap.size + 1]? = some (.cells #[.int .i64 (-1), .int .i64 0, .int .i64 0, .slice none 0 0] 29 (0, 0))) := by unfold Hid; rw [hW5, show wr.heap.size + 1 = (wr.alloc (.cells #[.int .i64 op, .int .i64 i, .int .i64 j, .slice V vs.length q] 29)).heap.size by simp]; exact heap_alloc_new _ _
          have hd0' := HX5.out.cell_some hd0
          have e0 : W5.cell? ⟨wr.heap.size, 0, none⟩ = some (.int .i64 op) := by simp [World.cell?, HB18.out]
          have e1 : W5.cell? ⟨wr.heap.size, 1, none⟩ = some (.int .i64 i) := by simp [World.cell?, HB18.out]
          have e2 : W5.cell? ⟨wr.heap.size, 2, none⟩ = some (.int .i64 j) := by simp [World.cell?, HB18.out]
          have e3 : W5.cell? ⟨wr.heap.size, 3, none⟩ = some (.slice V vs.length q) := by simp [World.cell?, HB18.out]
          clear hW5 hd0
          go_cut [74] (fun _ wx => ∃ (p1 i1 j1 : Int) (Bx : Option Addr) (qx : Nat) (ys : List Int), Hid (undoP l (op, i, j, vs) = (p1, i1, j1, ys)) ∧ Hid (wx.heap[wr.heap.size + 1]? = some (.cells #[.int .i64 p1, .int .i64 i1, .int .i64 j1, .slice Bx ys.length qx] 29 (0, 0))) ∧ Hid (Ext wr wx) ∧ Hid (OffI wx none ys (.slice Bx ys.length qx)))
          case first =>
            cases p with
            | true =>
              have HUP : Hid (undoP l (op, i, j, vs) = (-1, 0, 0, [])) := Lib.hid (by unfold undoP; rw [if_pos HP.out])
              go_wp2_with fail
              go_meet
              exact ⟨-1, 0, 0, none, 0, [], HUP.out, HB21.out, HX5.out, OffI.nil _ _⟩
            | false =>
              have hnp : ¬ outP l (op, i, j, vs) = true := by rw [HP.out]; decide
              have HNP := Lib.hid hnp
              clear hnp
              by_cases h0 : op = 0
              · subst h0
                have HUP : Hid (undoP l (0, i, j, vs) = (1, i, i + vs.length, [])) := Lib.hid (by unfold undoP; rw [if_neg HNP.out, if_pos rfl])
                have hcc := cutP_cond (l := l) (vs := vs) (i := i) (j := i) (by rw [← editP_0 l vs i j]; exact HP.out)
                obtain ⟨hi1, -, hi2⟩ := hcc
                have swi : IntKind.i64.wrap (i + (vs.length : Int)) = i + (vs.length : Int) := IntWalk.i64_in _ (by omega)
                have q0 : W5.cell? ⟨wr.heap.size + 1, 0, none⟩ = some (.int .i64 (-1)) := by simp [World.cell?, HB21.out]
                have r0 : W5.frozen? ⟨wr.heap.size + 1, 0, none⟩ = false := by simp [World.frozen?, HB21.out]
                have q1 : W5.cell? ⟨wr.heap.size + 1, 1, none⟩ = some (.int .i64 0) := by simp [World.cell?, HB21.out]
                have r1 : W5.frozen? ⟨wr.heap.size + 1, 1, none⟩ = false := by simp [World.frozen?, HB21.out]
                have q2 : W5.cell? ⟨wr.heap.size + 1, 2, none⟩ = some (.int .i64 0) := by simp [World.cell?, HB21.out]
                have r2 : W5.frozen? ⟨wr.heap.size + 1, 2, none⟩ = false := by simp [World.frozen?, HB21.out]
                have q3 : W5.cell? ⟨wr.heap.size + 1, 3, none⟩ = some (.slice none 0 0) := by simp [World.cell?, HB21.out]
                have r3 : W5.frozen? ⟨wr.heap.size + 1, 3, none⟩ = false := by simp [World.frozen?, HB21.out]
                go_wp2_with fail
                go_meet
                exact ⟨1, i, i + vs.length, none, 0, [], HUP.out, blk4 HB21.out _ _ _ _, ext4 HX5.out (Nat.le_succ _) _ _ _ _, OffI.nil _ _⟩
              · by_cases h4 : op = 4
                · subst h4
                  have HUP : Hid (undoP l (4, i, j, vs) = (1, (l.length : Int), (l'.length : Int), [])) := Lib.hid (by
                    unfold undoP
                    rw [if_neg HNP.out, if_neg (show ¬ (4 : Int) = 0 by decide), if_neg (show ¬ (4 : Int) = 1 by decide), if_neg (show ¬ (4 : Int) = 2 by decide), if_neg (show ¬ (4 : Int) = 3 by decide), if_pos rfl, HG2.out])
                  have q0 : W5.cell? ⟨wr.heap.size + 1, 0, none⟩ = some (.int .i64 (-1)) := by simp [World.cell?, HB21.out]
                  have r0 : W5.frozen? ⟨wr.heap.size + 1, 0, none⟩ = false := by simp [World.frozen?, HB21.out]
                  have q1 : W5.cell? ⟨wr.heap.size + 1, 1, none⟩ = some (.int .i64 0) := by simp [World.cell?, HB21.out]
                  have r1 : W5.frozen? ⟨wr.heap.size + 1, 1, none⟩ = false := by simp [World.frozen?, HB21.out]
                  have q2 : W5.cell? ⟨wr.heap.size + 1, 2, none⟩ = some (.int .i64 0) := by simp [World.cell?, HB21.out]
                  have r2 : W5.frozen? ⟨wr.heap.size + 1, 2, none⟩ = false := by simp [World.frozen?, HB21.out]
                  have q3 : W5.cell? ⟨wr.heap.size + 1, 3, none⟩ = some (.slice none 0 0) := by simp [World.cell?, HB21.out]
                  have r3 : W5.frozen? ⟨wr.heap.size + 1, 3, none⟩ = false := by simp [World.frozen?, HB21.out]
                  go_wp2_with fail
                  go_meet
                  exact ⟨1, l.length, l'.length, none, 0, [], HUP.out, blk4 HB21.out _ _ _ _, ext4 HX5.out (Nat.le_succ _) _ _ _ _, OffI.nil _ _⟩
                · by_cases h1 : op = 1
                  · subst h1
                    have HUP : Hid (undoP l (1, i, j, vs) = (0, i, 0, (l.take j.toNat).drop i.toNat)) := Lib.hid (by
                      unfold undoP
                      rw [if_neg HNP.out, if_neg (show ¬ (1 : Int) = 0 by decide), if_pos rfl])
                    have hcc := cutP_cond (l := l) (vs := []) (i := i) (j := j) (by rw [← editP_1 l vs i j]; exact HP.out)
                    obtain ⟨hi1, hi2, hi3⟩ := hcc
                    have d1 : decide (i < 0) = false := by simp; omega
                    have d2 : decide (j < i) = false := by simp; omega
                    have d3 : decide (j > (l.length : Int)) = false := by simp; omega
                    have HPT := Lib.hid (fun wx (hx : Ext wr wx) => part_off Bb l.length qb i j l wx (HRB.out.ext (HE2.out.trans hx)) hi1 (by omega) hi3 (by omega))
                    generalize (l.take j.toNat).drop i.toNat = ys at HUP HPT
                    clear hi1 hi2 hi3
                    go_wp2_with fail
                    go_region_held3 (fun w' => w'.cell? ⟨wr.heap.size, 1, none⟩ = some (.int .i64 i) ∧ w'.cell? ⟨wr.heap.size, 2, none⟩ = some (.int .i64 j) ∧ w'.cell? ⟨wr.heap.size, 3, none⟩ = some (.slice V vs.length q))
                      (first | exact ⟨e1, e2, e3⟩ | exact ⟨z1, z2, z3⟩ | go_keep)
                      ((go_at_call 24; refine (HPT.out W5.drew HX5.out.drew).mono ?_; rintro e w7 ⟨C7, k7, rfl, ho7, hx7⟩; obtain ⟨z1, z2, z3, q0', r0', q1', r1', q2', r2', q3', r3'⟩ := u_held (blk_ext hx7 HB18.out) (blk_ext hx7 HB21.out)))
                    go_wp2_with fail
                    go_meet
                    exact ⟨0, i, 0, C7, k7, ys, HUP.out, blk4 (blk_ext hx7 HB21.out) _ _ _ _, ext4 (HX5.out.drew.trans hx7) (Nat.le_succ _) _ _ _ _, off4 ho7 (blk_ext hx7 HB21.out) _ _ _ _⟩
                  · by_cases h2 : op = 2
                    · subst h2
                      have HUP : Hid (undoP l (2, i, j, vs) = (2, i, i + vs.length, (l.take j.toNat).drop i.toNat)) := Lib.hid (by
                        unfold undoP
                        rw [if_neg HNP.out, if_neg (show ¬ (2 : Int) = 0 by decide), if_neg (show ¬ (2 : Int) = 1 by decide), if_pos rfl])
                      have hcc := cutP_cond (l := l) (vs := vs) (i := i) (j := j) (by rw [← editP_2 l vs i j]; exact HP.out)
                      obtain ⟨hi1, hi2, hi3⟩ := hcc
                      have d1 : decide (i < 0) = false := by simp; omega
                      have d2 : decide (j < i) = false := by simp; omega
                      have d3 : decide (j > (l.length : Int)) = false := by simp; omega
                      have swi : IntKind.i64.wrap (i + (vs.length : Int)) = i + (vs.length : Int) := IntWalk.i64_in _ (by omega)
                      have HPT := Lib.hid (fun wx (hx : Ext wr wx) => part_off Bb l.length qb i j l wx (HRB.out.ext (HE2.out.trans hx)) hi1 (by omega) hi3 (by omega))
                      generalize (l.take j.toNat).drop i.toNat = ys at HUP HPT
                      clear hi1 hi2 hi3
                      go_wp2_with fail
                      go_region_held3 (fun w' => w'.cell? ⟨wr.heap.size, 1, none⟩ = some (.int .i64 i) ∧ w'.cell? ⟨wr.heap.size, 2, none⟩ = some (.int .i64 j) ∧ w'.cell? ⟨wr.heap.size, 3, none⟩ = some (.slice V vs.length q))
                        (first | exact ⟨e1, e2, e3⟩ | exact ⟨z1, z2, z3⟩ | go_keep)
                        ((go_at_call 24; refine (HPT.out W5.drew HX5.out.drew).mono ?_; rintro e w7 ⟨C7, k7, rfl, ho7, hx7⟩; obtain ⟨z1, z2, z3, q0', r0', q1', r1', q2', r2', q3', r3'⟩ := u_held (blk_ext hx7 HB18.out) (blk_ext hx7 HB21.out)))
                      go_wp2_with fail
                      go_meet
                      exact ⟨2, i, i + vs.length, C7, k7, ys, HUP.out, blk4 (blk_ext hx7 HB21.out) _ _ _ _, ext4 (HX5.out.drew.trans hx7) (Nat.le_succ _) _ _ _ _, off4 ho7 (blk_ext hx7 HB21.out) _ _ _ _⟩
                    · by_cases h3 : op = 3
                      · subst h3
                        have HUP : Hid (undoP l (3, i, j, vs) = (2, 0, (l'.length : Int), l)) := Lib.hid (by
                          unfold undoP
                          rw [if_neg HNP.out, if_neg (show ¬ (3 : Int) = 0 by decide), if_neg (show ¬ (3 : Int) = 1 by decide), if_neg (show ¬ (3 : Int) = 2 by decide), if_pos rfl, HG2.out])
                        go_wp2_with fail
                        refine (joined_one Bb l.length qb l W5 _ rfl (HRB.out.ext (HE2.out.trans HX5.out)) (by omega)).mono ?_
                        rintro e w7 ⟨C7, k7, rfl, ho7, hx7⟩
                        have HB7 := Lib.hid (blk_ext hx7 HB21.out)
                        have HX7 := Lib.hid (HX5.out.trans hx7)
                        have HOF := Lib.hid (off_fresh ho7)
                        have hu7 := u_held (blk_ext hx7 HB18.out) HB7.out
                        obtain ⟨-, -, -, q0', r0', q1', r1', q2', r2', q3', r3'⟩ := hu7
                        clear hx7 ho7
                        go_wp2_with fail
                        go_meet
                        exact ⟨2, 0, l'.length, C7, k7, l, HUP.out, blk4 HB7.out _ _ _ _, ext4 HX7.out (Nat.le_succ _) _ _ _ _, off4 HOF.out HB7.out _ _ _ _⟩
                      · have HUP : Hid (undoP l (op, i, j, vs) = (-1, 0, 0, [])) := Lib.hid (by
                          unfold undoP
                          rw [if_neg HNP.out, if_neg h0, if_neg h1, if_neg h2, if_neg h3, if_neg h4])
                        go_wp2_with fail
                        go_meet
                        exact ⟨-1, 0, 0, none, 0, [], HUP.out, HB21.out, HX5.out, OffI.nil _ _⟩
          case rest =>
            obtain ⟨p1, i1, j1, Bx, qx, ys, HUP, HBX, HXC, HOF⟩ := hcut
            have n0 : wc.cell? ⟨wr.heap.size + 1, 0, none⟩ = some (.int .i64 p1) := by simp [World.cell?, HBX.out]
            have n1' : wc.cell? ⟨wr.heap.size + 1, 1, none⟩ = some (.int .i64 i1) := by simp [World.cell?, HBX.out]
            have n2' : wc.cell? ⟨wr.heap.size + 1, 2, none⟩ = some (.int .i64 j1) := by simp [World.cell?, HBX.out]
            have n3' : wc.cell? ⟨wr.heap.size + 1, 3, none⟩ = some (.slice Bx ys.length qx) := by simp [World.cell?, HBX.out]
            go_wp2_with (with_reducible refine stand_at 181 ?_)
            have HXX := Lib.hid (HXC.out.alloc (.cells #[.int .i64 p1, .int .i64 i1, .int .i64 j1, .slice Bx ys.length qx] 29))
            refine Stand.mk (wpList_apps elEdit rfl _ _ rfl w2.heap.size u16 U.length (recCells ecell U vsU) rfl (own_ext HU8.out HXX.out) _ 1 1 [.int .i64 p1, .int .i64 i1, .int .i64 j1, .slice Bx ys.length qx] rfl (Row.fresh' _ _ 4 #[.int .i64 p1, .int .i64 i1, .int .i64 j1, .slice Bx ys.length qx] 1 _ rfl rfl hml1) (by simp [Value.oneCell']) HB2.out HX2.out (HE2.out.trans HXX.out).size ?_)
            intro A9 c9 w5 HO9 HG9 HL9
            go_wp2
            go_roundg m
            case measure => omega
            case rel =>
              refine ⟨(m : Int) - 1, by go_num, rfl, by omega, ?_, (HL2.out.ext HXX.out).keep (own_ext HU8.out HXX.out) HG9.out, (HE2.out.trans HXX.out).grown HG9.out fun g hg => (HU8.out.lt g hg).1⟩
              rw [← HLM.out, HUN.out, HUP.out]
              exact OwnRecs.push (d := (p1, i1, j1, ys)) (x := .slice Bx ys.length qx) HB.out (by decide) HXX.out (HOF.out.ext ((Ext.refl _).alloc _)) HG9.out (u' := .slice A9 (U.length + 1) c9) (fun vs' _ h' => by rw [own_uniq h' (own_ext HU8.out HXX.out)]; exact HO9.out)
end Go.Proofs.Ytaimljagflnfpaa
