/- The contract of laws.script: the edits of a script. No statement of the seat is proved here. -/
import Derived.Test.YtaimljagflnfpaaEditsAll
namespace Go.Proofs.Ytaimljagflnfpaa
open Go.RowKit

/-- The edit with number n of a script; what a list does not have is 0. -/
def edtAt (from_ to_ : List Int) (vals : List (List Int)) (n : Nat) (op : Int) : Edt := (op, from_.getD n 0, to_.getD n 0, vals.getD n [])
def scriptP (ops from_ to_ : List Int) (vals : List (List Int)) : List Edt := ops.mapIdx (fun n op => edtAt from_ to_ vals n op)
theorem scriptP_length (ops from_ to_ : List Int) (vals : List (List Int)) : (scriptP ops from_ to_ vals).length = ops.length := by simp [scriptP]
theorem scriptP_snoc (ops from_ to_ : List Int) (vals : List (List Int)) (k : Nat) (op : Int) (h : ops[k]? = some op) : scriptP (ops.take (k + 1)) from_ to_ vals = scriptP (ops.take k) from_ to_ vals ++ [edtAt from_ to_ vals k op] := by
  rw [take_snoc h]
  have hk := (List.getElem?_eq_some_iff.1 h).1
  unfold scriptP
  rw [List.mapIdx_append]
  simp [List.length_take, Nat.min_eq_left (Nat.le_of_lt hk)]
theorem scriptP_get (ops from_ to_ : List Int) (vals : List (List Int)) (k : Nat) : (scriptP ops from_ to_ vals)[k]? = ops[k]?.map (edtAt from_ to_ vals k) := by
  simp [scriptP]
theorem evals_le (ops from_ to_ : List Int) (vals : List (List Int)) : evals (scriptP ops from_ to_ vals) ≤ vals.flatten.length := by
  have h : ∀ (os : List Int) (vs : List (List Int)) (f : Nat → Int → Edt), (∀ n op, (f n op).2.2.2 = vs.getD n []) → evals (os.mapIdx f) ≤ vs.flatten.length := by
    intro os
    induction os with
    | nil => intro vs f _; simp [evals]
    | cons o r ih =>
      intro vs f hf
      rw [List.mapIdx_cons]
      simp only [evals]
      cases vs with
      | nil =>
        have := ih [] (fun i => f (i + 1)) (fun n op => by rw [hf]; simp)
        rw [hf]
        simpa using this
      | cons v t =>
        have := ih t (fun i => f (i + 1)) (fun n op => by rw [hf]; simp)
        rw [hf]
        simp only [List.getD_cons_zero, List.flatten_cons, List.length_append]
        omega
  exact h ops vals (edtAt from_ to_ vals) (fun n op => rfl)

theorem lists_one (w : World) (B : Nat) (hB : w.heap.size = B) (A : Option Addr) (n c : Nat) (l : List Int) (h1 : Row w 1 A n c (ints l)) :
    Lists (w.alloc (.cells #[.slice A n c] 22)) (some ⟨B, 0, none⟩) 1 1 [l] := by
  refine ⟨[.slice A n c], Row.fresh' w _ 1 #[.slice A n c] 1 B hB rfl (by unfold maxLen; omega), rfl, fun i xs hx => ?_⟩
  rcases i with _ | i
  · simp at hx; subst hx; exact ⟨A, n, c, rfl, h1.alloc _⟩
  · simp at hx
/-- spec.Joined of one list that a literal lays: it is copied into a new row. -/
theorem joined_one (A : Option Addr) (n c : Nat) (l : List Int) (w : World) (B : Nat) (hB : w.heap.size = B) (h1 : Row w 1 A n c (ints l)) (hs : n ≤ 1099511627776) :
    Calls Try.prog 17 #[.slice (some ⟨B, 0, none⟩) 1 1] (w.alloc (.cells #[.slice A n c] 22)) fun e w' => ∃ C k, e = .returned (.slice C n k) ∧ w'.ownsRow w.heap.size 3 1 (.slice C n k) n (ints l) ∧ Ext w w' := by
  have hl := h1.ints_len
  refine (joined_own (some ⟨B, 0, none⟩) 1 1 [l] _ (lists_one w B hB A n c l h1) (by simp only [List.flatten_cons, List.flatten_nil, List.append_nil]; omega)).mono fun e w' ⟨C, k, h3, h4, h5⟩ => ?_
  have e1 : [l].flatten = l := by simp
  rw [e1, hl] at h3 h4
  exact ⟨C, k, h3, own_up h4 ((Ext.refl w).alloc _).size, ((Ext.refl w).alloc _).trans h5⟩
theorem getD_some {α : Type} {l : List α} {k : Nat} {x d : α} (h : l[k]? = some x) : l.getD k d = x := by rw [List.getD_eq_getElem?_getD, h]; rfl
theorem getD_none {α : Type} {l : List α} {k : Nat} {d : α} (h : l.length ≤ k) : l.getD k d = d := by rw [List.getD_eq_getElem?_getD, List.getElem?_eq_none h]; rfl

/-- The values of an edit that is being laid: what was there stays. -/
theorem script_put {wr w3 : World} {base' : Nat} (L : Obj) {cs : Array Value} {C : Option Addr} {m q : Nat} {vs : List Int} (hx : Ext wr w3) (hb : w3.heap[wr.heap.size]? = some (.cells cs 29 (0, 0))) (hk : w3.ownsRow base' 3 1 (.slice C m q) m (ints vs)) (j : Nat) :
    Ext wr ((w3.setCell ⟨wr.heap.size, j, none⟩ (.slice C m q)).alloc L) ∧ (∀ (base n : Nat) (u : Value) (xs : List Value), wr.ownsRow base 29 4 u n xs → ((w3.setCell ⟨wr.heap.size, j, none⟩ (.slice C m q)).alloc L).ownsRow base 29 4 u n xs) ∧ True ∧
      (vs.length = m → OffI ((w3.setCell ⟨wr.heap.size, j, none⟩ (.slice C m q)).alloc L) none vs (.slice C m q)) := by
  have hx1 : Ext wr ((w3.setCell ⟨wr.heap.size, j, none⟩ (.slice C m q)).alloc L) := (hx.setCell (p := ⟨wr.heap.size, j, none⟩) (Nat.le_refl _) _).alloc _
  refine ⟨hx1, fun _ _ _ _ h => own_ext h hx1, trivial, fun hl => ?_⟩
  have h1 : OffI w3 none vs (.slice C m q) := OffI.own hk (by
    cases C with
    | none => exact .inr rfl
    | some a => exact .inl (by simp [Value.ownBlock]))
  refine (h1.keep (grown_setCell w3 ⟨wr.heap.size, j, none⟩ _) (fun b cs' hb' _ he => ?_) (.inl rfl)).ext ((Ext.refl _).alloc _)
  injection he with he
  have he' : wr.heap.size = b := he
  rw [← he', hb] at hb'
  injection hb' with hb'
  injection hb' with _ h2
  exact absurd h2 (by decide)

set_option maxRecDepth 100000 in
set_option maxHeartbeats 4000000 in
theorem script_ok (A1 A2 A3 A4 : Option Addr) (n1 n2 n3 n4 c1 c2 c3 c4 : Nat) (ops fr to_ : List Int) (vals : List (List Int)) (w : World) (h1 : Row w 1 A1 n1 c1 (ints ops)) (h2 : Row w 1 A2 n2 c2 (ints fr)) (h3 : Row w 1 A3 n3 c3 (ints to_)) (h4 : Lists w A4 n4 c4 vals) (hs : n1 ≤ 1099511627776) (hv : vals.flatten.length ≤ 1099511627776) :
    Calls Try.prog 22 #[.slice A1 n1 c1, .slice A2 n2 c2, .slice A3 n3 c3, .slice A4 n4 c4] w fun e w' => ∃ u, e = .returned u ∧ OwnEdts w' w.heap.size none u (scriptP ops fr to_ vals) ∧ Ext w w' := by
  have hl1 := h1.lim
  have hl2 := h2.lim
  have hl3 := h3.lim
  have hl4 := h4.lim
  unfold maxLen at hl1 hl2 hl3 hl4
  have H1 := Lib.hid h1
  have H2 := Lib.hid h2
  have H3 := Lib.hid h3
  have H4 := Lib.hid h4
  have HV := Lib.hid hv
  clear h1 h2 h3 h4 hv
  go_enter Try.func22, Try.ntmps22
  go_wp2
  go_loopg [9, 16] n1 (fun kx v i wr => ∃ k : Nat, k + kx = n1 ∧ i = .int .i64 (k : Int) ∧ Hid (OwnEdts wr w.heap.size none v (scriptP (ops.take k) fr to_ vals)) ∧ Hid (Ext w wr))
  case atStart => exact ⟨0, by omega, rfl, OwnRecs.nil _ _ _ _ (own_lit0 w _ _), (Ext.refl w).alloc _⟩
  case round =>
    obtain ⟨k, hk, rfl, HO, HE⟩ := hrel
    have hz := HE.out.size
    by_cases hlt : k < n1
    · obtain ⟨b1, o1, x1, rfl, hx1, hc1⟩ := (H1.out.ext HE.out).int_at (k := k) hlt
      have HN := Lib.hid (scriptP_snoc ops fr to_ vals k x1 hx1.out)
      obtain ⟨D, hD⟩ : ∃ D, D = scriptP (ops.take k) fr to_ vals := ⟨_, rfl⟩
      rw [← hD] at HO
      have hDl : D.length = k := by rw [hD, scriptP_length, List.length_take, H1.out.ints_len]; omega
      have HD := Lib.hid hD
      have HDL := Lib.hid hDl
      obtain ⟨vs0, hvl, hu8, -⟩ := HO.out
      have HU8 := Lib.hid hu8
      have HVL := Lib.hid hvl
      have hb2 : (D.length + 1) * 48 ≤ 140737488355328 := by rw [hDl]; omega
      have hx2 : D.length + 1 ≤ maxLen := by rw [hDl]; unfold maxLen; omega
      have HB2 := Lib.hid hb2
      have HX2 := Lib.hid hx2
      have hml1 : 1 ≤ maxLen := by unfold maxLen; omega
      clear hD hDl hvl hu8 hb2 hx2
      by_cases h2 : k < n2
      · by_cases h3 : k < n3
        · by_cases h4 : k < n4
          · obtain ⟨b2, o2, x2, rfl, hx2, hc2⟩ := (H2.out.ext HE.out).int_at (k := k) h2
            have E2 : Hid (fr.getD k 0 = x2) := Lib.hid (getD_some hx2.out)
            have hd2 := fun o => cell_alloc_some hc2 o
            obtain ⟨b3, o3, x3, rfl, hx3, hc3⟩ := (H3.out.ext HE.out).int_at (k := k) h3
            have E3 : Hid (to_.getD k 0 = x3) := Lib.hid (getD_some hx3.out)
            have hd3 := fun o => cell_alloc_some hc3 o
            obtain ⟨b4, o4, V, m, d, vs, rfl, hc4, hLk, hrow⟩ := (H4.out.ext HE.out).at_ (k := k) h4
            have E4 : Hid (vals.getD k [] = vs) := Lib.hid (getD_some hLk.out)
            have hd4 := fun o => cell_alloc_some hc4 o
            have hvm : m ≤ 1099511627776 := by have g1 := flat_le hLk.out; have g2 := HV.out; have g3 := hrow.out.ints_len; omega
            go_wp2_with fail
            refine (joined_one V m d vs (wr.alloc (.cells #[.int .i64 x1, .int .i64 x2, .int .i64 x3, .slice none 0 0] 29)) _ (by simp) (hrow.out.alloc _) hvm).mono ?_
            rintro e w3 ⟨C, q, rfl, k1, k2⟩
            have kb := blk_ext k2 (heap_alloc_new wr _)
            have q0 : w3.cell? ⟨wr.heap.size, 0, none⟩ = some (.int .i64 x1) := (by simp [World.cell?, kb])
            have q1 : w3.cell? ⟨wr.heap.size, 1, none⟩ = some (.int .i64 x2) := (by simp [World.cell?, kb])
            have q2 : w3.cell? ⟨wr.heap.size, 2, none⟩ = some (.int .i64 x3) := (by simp [World.cell?, kb])
            have q3 : w3.cell? ⟨wr.heap.size, 3, none⟩ = some (.slice none 0 0) := (by simp [World.cell?, kb])
            have f3 : w3.frozen? ⟨wr.heap.size, 3, none⟩ = false := (by simp [World.frozen?, kb])
            have HS := Lib.hid (script_put (.cells #[.int .i64 x1, .int .i64 x2, .int .i64 x3, .slice C m q] 29) (((Ext.refl wr).alloc _).trans k2) kb k1 3)
            have hz3 : w.heap.size ≤ w3.heap.size := Nat.le_trans hz (((Ext.refl wr).alloc _).trans k2).size
            clear kb k1 k2
            have s0 := (World.cell?_setCell_other w3 ⟨wr.heap.size, 3, none⟩ ⟨wr.heap.size, 0, none⟩ (.slice C m q) (by simp)).trans q0
            have s1 := (World.cell?_setCell_other w3 ⟨wr.heap.size, 3, none⟩ ⟨wr.heap.size, 1, none⟩ (.slice C m q) (by simp)).trans q1
            have s2 := (World.cell?_setCell_other w3 ⟨wr.heap.size, 3, none⟩ ⟨wr.heap.size, 2, none⟩ (.slice C m q) (by simp)).trans q2
            have s3 := World.cell?_setCell_same w3 ⟨wr.heap.size, 3, none⟩ (.slice C m q) q3
            go_wp2_with (with_reducible refine stand_at 55 ?_)
            refine Stand.mk (wpList_apps elEdit rfl _ _ rfl w.heap.size u9 D.length (recCells ecell D vs0) rfl (HS.out.2.1 _ _ _ _ HU8.out) _ 1 1 [.int .i64 x1, .int .i64 x2, .int .i64 x3, .slice C m q] rfl (Row.fresh' _ _ 4 #[.int .i64 x1, .int .i64 x2, .int .i64 x3, .slice C m q] 1 _ (by simp) rfl hml1) (by simp [Value.oneCell']) HB2.out HX2.out (by simp; omega) ?_)
            intro A9 c9 w5 HO9 HG9 HL9
            go_wp2
            go_roundg (gk - 1)
            case measure => omega
            case rel =>
              refine ⟨k + 1, by omega, by go_num, ?_, (HE.out.trans HS.out.1).grown HG9.out fun g hg => (HU8.out.lt g hg).1⟩
              have hp := OwnRecs.push (d := (x1, x2, x3, vs)) (x := .slice C m q) HO.out (by decide) HS.out.1 (HS.out.2.2.2 hrow.out.ints_len) HG9.out (u' := .slice A9 (D.length + 1) c9) (fun vs' _ h' => by rw [own_uniq h' (HS.out.2.1 _ _ _ _ HU8.out)]; exact HO9.out)
              rw [HN.out, ← HD.out]
              unfold edtAt
              rw [E2.out, E3.out, E4.out]
              exact hp
          · obtain ⟨b2, o2, x2, rfl, hx2, hc2⟩ := (H2.out.ext HE.out).int_at (k := k) h2
            have E2 : Hid (fr.getD k 0 = x2) := Lib.hid (getD_some hx2.out)
            have hd2 := fun o => cell_alloc_some hc2 o
            obtain ⟨b3, o3, x3, rfl, hx3, hc3⟩ := (H3.out.ext HE.out).int_at (k := k) h3
            have E3 : Hid (to_.getD k 0 = x3) := Lib.hid (getD_some hx3.out)
            have hd3 := fun o => cell_alloc_some hc3 o
            have E4 : Hid (vals.getD k [] = []) := Lib.hid (getD_none (by rw [H4.out.len]; omega))
            go_wp2_with (with_reducible refine stand_at 55 ?_)
            refine Stand.mk (wpList_apps elEdit rfl _ _ rfl w.heap.size u9 D.length (recCells ecell D vs0) rfl (own_ext HU8.out (((Ext.refl wr).alloc _).alloc _)) _ 1 1 [.int .i64 x1, .int .i64 x2, .int .i64 x3, .slice none 0 0] rfl (Row.fresh' _ _ 4 #[.int .i64 x1, .int .i64 x2, .int .i64 x3, .slice none 0 0] 1 _ (by simp) rfl hml1) (by simp [Value.oneCell']) HB2.out HX2.out (by simp; omega) ?_)
            intro A9 c9 w5 HO9 HG9 HL9
            go_wp2
            go_roundg (gk - 1)
            case measure => omega
            case rel =>
              refine ⟨k + 1, by omega, by go_num, ?_, ((HE.out.alloc _).alloc _).grown HG9.out fun g hg => (HU8.out.lt g hg).1⟩
              have hp := OwnRecs.push (d := (x1, x2, x3, [])) (x := .slice none 0 0) HO.out (by decide) (((Ext.refl wr).alloc _).alloc _) (OffI.nil _ _) HG9.out (u' := .slice A9 (D.length + 1) c9) (fun vs' _ h' => by rw [own_uniq h' (own_ext HU8.out (((Ext.refl wr).alloc _).alloc _))]; exact HO9.out)
              rw [HN.out, ← HD.out]
              unfold edtAt
              rw [E2.out, E3.out, E4.out]
              exact hp
        · by_cases h4 : k < n4
          · obtain ⟨b2, o2, x2, rfl, hx2, hc2⟩ := (H2.out.ext HE.out).int_at (k := k) h2
            have E2 : Hid (fr.getD k 0 = x2) := Lib.hid (getD_some hx2.out)
            have hd2 := fun o => cell_alloc_some hc2 o
            have E3 : Hid (to_.getD k 0 = 0) := Lib.hid (getD_none (by rw [H3.out.ints_len]; omega))
            obtain ⟨b4, o4, V, m, d, vs, rfl, hc4, hLk, hrow⟩ := (H4.out.ext HE.out).at_ (k := k) h4
            have E4 : Hid (vals.getD k [] = vs) := Lib.hid (getD_some hLk.out)
            have hd4 := fun o => cell_alloc_some hc4 o
            have hvm : m ≤ 1099511627776 := by have g1 := flat_le hLk.out; have g2 := HV.out; have g3 := hrow.out.ints_len; omega
            go_wp2_with fail
            refine (joined_one V m d vs (wr.alloc (.cells #[.int .i64 x1, .int .i64 x2, .int .i64 0, .slice none 0 0] 29)) _ (by simp) (hrow.out.alloc _) hvm).mono ?_
            rintro e w3 ⟨C, q, rfl, k1, k2⟩
            have kb := blk_ext k2 (heap_alloc_new wr _)
            have q0 : w3.cell? ⟨wr.heap.size, 0, none⟩ = some (.int .i64 x1) := (by simp [World.cell?, kb])
            have q1 : w3.cell? ⟨wr.heap.size, 1, none⟩ = some (.int .i64 x2) := (by simp [World.cell?, kb])
            have q2 : w3.cell? ⟨wr.heap.size, 2, none⟩ = some (.int .i64 0) := (by simp [World.cell?, kb])
            have q3 : w3.cell? ⟨wr.heap.size, 3, none⟩ = some (.slice none 0 0) := (by simp [World.cell?, kb])
            have f3 : w3.frozen? ⟨wr.heap.size, 3, none⟩ = false := (by simp [World.frozen?, kb])
            have HS := Lib.hid (script_put (.cells #[.int .i64 x1, .int .i64 x2, .int .i64 0, .slice C m q] 29) (((Ext.refl wr).alloc _).trans k2) kb k1 3)
            have hz3 : w.heap.size ≤ w3.heap.size := Nat.le_trans hz (((Ext.refl wr).alloc _).trans k2).size
            clear kb k1 k2
            have s0 := (World.cell?_setCell_other w3 ⟨wr.heap.size, 3, none⟩ ⟨wr.heap.size, 0, none⟩ (.slice C m q) (by simp)).trans q0
            have s1 := (World.cell?_setCell_other w3 ⟨wr.heap.size, 3, none⟩ ⟨wr.heap.size, 1, none⟩ (.slice C m q) (by simp)).trans q1
            have s2 := (World.cell?_setCell_other w3 ⟨wr.heap.size, 3, none⟩ ⟨wr.heap.size, 2, none⟩ (.slice C m q) (by simp)).trans q2
            have s3 := World.cell?_setCell_same w3 ⟨wr.heap.size, 3, none⟩ (.slice C m q) q3
            go_wp2_with (with_reducible refine stand_at 55 ?_)
            refine Stand.mk (wpList_apps elEdit rfl _ _ rfl w.heap.size u9 D.length (recCells ecell D vs0) rfl (HS.out.2.1 _ _ _ _ HU8.out) _ 1 1 [.int .i64 x1, .int .i64 x2, .int .i64 0, .slice C m q] rfl (Row.fresh' _ _ 4 #[.int .i64 x1, .int .i64 x2, .int .i64 0, .slice C m q] 1 _ (by simp) rfl hml1) (by simp [Value.oneCell']) HB2.out HX2.out (by simp; omega) ?_)
            intro A9 c9 w5 HO9 HG9 HL9
            go_wp2
            go_roundg (gk - 1)
            case measure => omega
            case rel =>
              refine ⟨k + 1, by omega, by go_num, ?_, (HE.out.trans HS.out.1).grown HG9.out fun g hg => (HU8.out.lt g hg).1⟩
              have hp := OwnRecs.push (d := (x1, x2, 0, vs)) (x := .slice C m q) HO.out (by decide) HS.out.1 (HS.out.2.2.2 hrow.out.ints_len) HG9.out (u' := .slice A9 (D.length + 1) c9) (fun vs' _ h' => by rw [own_uniq h' (HS.out.2.1 _ _ _ _ HU8.out)]; exact HO9.out)
              rw [HN.out, ← HD.out]
              unfold edtAt
              rw [E2.out, E3.out, E4.out]
              exact hp
          · obtain ⟨b2, o2, x2, rfl, hx2, hc2⟩ := (H2.out.ext HE.out).int_at (k := k) h2
            have E2 : Hid (fr.getD k 0 = x2) := Lib.hid (getD_some hx2.out)
            have hd2 := fun o => cell_alloc_some hc2 o
            have E3 : Hid (to_.getD k 0 = 0) := Lib.hid (getD_none (by rw [H3.out.ints_len]; omega))
            have E4 : Hid (vals.getD k [] = []) := Lib.hid (getD_none (by rw [H4.out.len]; omega))
            go_wp2_with (with_reducible refine stand_at 55 ?_)
            refine Stand.mk (wpList_apps elEdit rfl _ _ rfl w.heap.size u9 D.length (recCells ecell D vs0) rfl (own_ext HU8.out (((Ext.refl wr).alloc _).alloc _)) _ 1 1 [.int .i64 x1, .int .i64 x2, .int .i64 0, .slice none 0 0] rfl (Row.fresh' _ _ 4 #[.int .i64 x1, .int .i64 x2, .int .i64 0, .slice none 0 0] 1 _ (by simp) rfl hml1) (by simp [Value.oneCell']) HB2.out HX2.out (by simp; omega) ?_)
            intro A9 c9 w5 HO9 HG9 HL9
            go_wp2
            go_roundg (gk - 1)
            case measure => omega
            case rel =>
              refine ⟨k + 1, by omega, by go_num, ?_, ((HE.out.alloc _).alloc _).grown HG9.out fun g hg => (HU8.out.lt g hg).1⟩
              have hp := OwnRecs.push (d := (x1, x2, 0, [])) (x := .slice none 0 0) HO.out (by decide) (((Ext.refl wr).alloc _).alloc _) (OffI.nil _ _) HG9.out (u' := .slice A9 (D.length + 1) c9) (fun vs' _ h' => by rw [own_uniq h' (own_ext HU8.out (((Ext.refl wr).alloc _).alloc _))]; exact HO9.out)
              rw [HN.out, ← HD.out]
              unfold edtAt
              rw [E2.out, E3.out, E4.out]
              exact hp
      · by_cases h3 : k < n3
        · by_cases h4 : k < n4
          · have E2 : Hid (fr.getD k 0 = 0) := Lib.hid (getD_none (by rw [H2.out.ints_len]; omega))
            obtain ⟨b3, o3, x3, rfl, hx3, hc3⟩ := (H3.out.ext HE.out).int_at (k := k) h3
            have E3 : Hid (to_.getD k 0 = x3) := Lib.hid (getD_some hx3.out)
            have hd3 := fun o => cell_alloc_some hc3 o
            obtain ⟨b4, o4, V, m, d, vs, rfl, hc4, hLk, hrow⟩ := (H4.out.ext HE.out).at_ (k := k) h4
            have E4 : Hid (vals.getD k [] = vs) := Lib.hid (getD_some hLk.out)
            have hd4 := fun o => cell_alloc_some hc4 o
            have hvm : m ≤ 1099511627776 := by have g1 := flat_le hLk.out; have g2 := HV.out; have g3 := hrow.out.ints_len; omega
            go_wp2_with fail
            refine (joined_one V m d vs (wr.alloc (.cells #[.int .i64 x1, .int .i64 0, .int .i64 x3, .slice none 0 0] 29)) _ (by simp) (hrow.out.alloc _) hvm).mono ?_
            rintro e w3 ⟨C, q, rfl, k1, k2⟩
            have kb := blk_ext k2 (heap_alloc_new wr _)
            have q0 : w3.cell? ⟨wr.heap.size, 0, none⟩ = some (.int .i64 x1) := (by simp [World.cell?, kb])
            have q1 : w3.cell? ⟨wr.heap.size, 1, none⟩ = some (.int .i64 0) := (by simp [World.cell?, kb])
            have q2 : w3.cell? ⟨wr.heap.size, 2, none⟩ = some (.int .i64 x3) := (by simp [World.cell?, kb])
            have q3 : w3.cell? ⟨wr.heap.size, 3, none⟩ = some (.slice none 0 0) := (by simp [World.cell?, kb])
            have f3 : w3.frozen? ⟨wr.heap.size, 3, none⟩ = false := (by simp [World.frozen?, kb])
            have HS := Lib.hid (script_put (.cells #[.int .i64 x1, .int .i64 0, .int .i64 x3, .slice C m q] 29) (((Ext.refl wr).alloc _).trans k2) kb k1 3)
            have hz3 : w.heap.size ≤ w3.heap.size := Nat.le_trans hz (((Ext.refl wr).alloc _).trans k2).size
            clear kb k1 k2
            have s0 := (World.cell?_setCell_other w3 ⟨wr.heap.size, 3, none⟩ ⟨wr.heap.size, 0, none⟩ (.slice C m q) (by simp)).trans q0
            have s1 := (World.cell?_setCell_other w3 ⟨wr.heap.size, 3, none⟩ ⟨wr.heap.size, 1, none⟩ (.slice C m q) (by simp)).trans q1
            have s2 := (World.cell?_setCell_other w3 ⟨wr.heap.size, 3, none⟩ ⟨wr.heap.size, 2, none⟩ (.slice C m q) (by simp)).trans q2
            have s3 := World.cell?_setCell_same w3 ⟨wr.heap.size, 3, none⟩ (.slice C m q) q3
            go_wp2_with (with_reducible refine stand_at 55 ?_)
            refine Stand.mk (wpList_apps elEdit rfl _ _ rfl w.heap.size u9 D.length (recCells ecell D vs0) rfl (HS.out.2.1 _ _ _ _ HU8.out) _ 1 1 [.int .i64 x1, .int .i64 0, .int .i64 x3, .slice C m q] rfl (Row.fresh' _ _ 4 #[.int .i64 x1, .int .i64 0, .int .i64 x3, .slice C m q] 1 _ (by simp) rfl hml1) (by simp [Value.oneCell']) HB2.out HX2.out (by simp; omega) ?_)
            intro A9 c9 w5 HO9 HG9 HL9
            go_wp2
            go_roundg (gk - 1)
            case measure => omega
            case rel =>
              refine ⟨k + 1, by omega, by go_num, ?_, (HE.out.trans HS.out.1).grown HG9.out fun g hg => (HU8.out.lt g hg).1⟩
              have hp := OwnRecs.push (d := (x1, 0, x3, vs)) (x := .slice C m q) HO.out (by decide) HS.out.1 (HS.out.2.2.2 hrow.out.ints_len) HG9.out (u' := .slice A9 (D.length + 1) c9) (fun vs' _ h' => by rw [own_uniq h' (HS.out.2.1 _ _ _ _ HU8.out)]; exact HO9.out)
              rw [HN.out, ← HD.out]
              unfold edtAt
              rw [E2.out, E3.out, E4.out]
              exact hp
          · have E2 : Hid (fr.getD k 0 = 0) := Lib.hid (getD_none (by rw [H2.out.ints_len]; omega))
            obtain ⟨b3, o3, x3, rfl, hx3, hc3⟩ := (H3.out.ext HE.out).int_at (k := k) h3
            have E3 : Hid (to_.getD k 0 = x3) := Lib.hid (getD_some hx3.out)
            have hd3 := fun o => cell_alloc_some hc3 o
            have E4 : Hid (vals.getD k [] = []) := Lib.hid (getD_none (by rw [H4.out.len]; omega))
            go_wp2_with (with_reducible refine stand_at 55 ?_)
            refine Stand.mk (wpList_apps elEdit rfl _ _ rfl w.heap.size u9 D.length (recCells ecell D vs0) rfl (own_ext HU8.out (((Ext.refl wr).alloc _).alloc _)) _ 1 1 [.int .i64 x1, .int .i64 0, .int .i64 x3, .slice none 0 0] rfl (Row.fresh' _ _ 4 #[.int .i64 x1, .int .i64 0, .int .i64 x3, .slice none 0 0] 1 _ (by simp) rfl hml1) (by simp [Value.oneCell']) HB2.out HX2.out (by simp; omega) ?_)
            intro A9 c9 w5 HO9 HG9 HL9
            go_wp2
            go_roundg (gk - 1)
            case measure => omega
            case rel =>
              refine ⟨k + 1, by omega, by go_num, ?_, ((HE.out.alloc _).alloc _).grown HG9.out fun g hg => (HU8.out.lt g hg).1⟩
              have hp := OwnRecs.push (d := (x1, 0, x3, [])) (x := .slice none 0 0) HO.out (by decide) (((Ext.refl wr).alloc _).alloc _) (OffI.nil _ _) HG9.out (u' := .slice A9 (D.length + 1) c9) (fun vs' _ h' => by rw [own_uniq h' (own_ext HU8.out (((Ext.refl wr).alloc _).alloc _))]; exact HO9.out)
              rw [HN.out, ← HD.out]
              unfold edtAt
              rw [E2.out, E3.out, E4.out]
              exact hp
        · by_cases h4 : k < n4
          · have E2 : Hid (fr.getD k 0 = 0) := Lib.hid (getD_none (by rw [H2.out.ints_len]; omega))
            have E3 : Hid (to_.getD k 0 = 0) := Lib.hid (getD_none (by rw [H3.out.ints_len]; omega))
            obtain ⟨b4, o4, V, m, d, vs, rfl, hc4, hLk, hrow⟩ := (H4.out.ext HE.out).at_ (k := k) h4
            have E4 : Hid (vals.getD k [] = vs) := Lib.hid (getD_some hLk.out)
            have hd4 := fun o => cell_alloc_some hc4 o
            have hvm : m ≤ 1099511627776 := by have g1 := flat_le hLk.out; have g2 := HV.out; have g3 := hrow.out.ints_len; omega
            go_wp2_with fail
            refine (joined_one V m d vs (wr.alloc (.cells #[.int .i64 x1, .int .i64 0, .int .i64 0, .slice none 0 0] 29)) _ (by simp) (hrow.out.alloc _) hvm).mono ?_
            rintro e w3 ⟨C, q, rfl, k1, k2⟩
            have kb := blk_ext k2 (heap_alloc_new wr _)
            have q0 : w3.cell? ⟨wr.heap.size, 0, none⟩ = some (.int .i64 x1) := (by simp [World.cell?, kb])
            have q1 : w3.cell? ⟨wr.heap.size, 1, none⟩ = some (.int .i64 0) := (by simp [World.cell?, kb])
            have q2 : w3.cell? ⟨wr.heap.size, 2, none⟩ = some (.int .i64 0) := (by simp [World.cell?, kb])
            have q3 : w3.cell? ⟨wr.heap.size, 3, none⟩ = some (.slice none 0 0) := (by simp [World.cell?, kb])
            have f3 : w3.frozen? ⟨wr.heap.size, 3, none⟩ = false := (by simp [World.frozen?, kb])
            have HS := Lib.hid (script_put (.cells #[.int .i64 x1, .int .i64 0, .int .i64 0, .slice C m q] 29) (((Ext.refl wr).alloc _).trans k2) kb k1 3)
            have hz3 : w.heap.size ≤ w3.heap.size := Nat.le_trans hz (((Ext.refl wr).alloc _).trans k2).size
            clear kb k1 k2
            have s0 := (World.cell?_setCell_other w3 ⟨wr.heap.size, 3, none⟩ ⟨wr.heap.size, 0, none⟩ (.slice C m q) (by simp)).trans q0
            have s1 := (World.cell?_setCell_other w3 ⟨wr.heap.size, 3, none⟩ ⟨wr.heap.size, 1, none⟩ (.slice C m q) (by simp)).trans q1
            have s2 := (World.cell?_setCell_other w3 ⟨wr.heap.size, 3, none⟩ ⟨wr.heap.size, 2, none⟩ (.slice C m q) (by simp)).trans q2
            have s3 := World.cell?_setCell_same w3 ⟨wr.heap.size, 3, none⟩ (.slice C m q) q3
            go_wp2_with (with_reducible refine stand_at 55 ?_)
            refine Stand.mk (wpList_apps elEdit rfl _ _ rfl w.heap.size u9 D.length (recCells ecell D vs0) rfl (HS.out.2.1 _ _ _ _ HU8.out) _ 1 1 [.int .i64 x1, .int .i64 0, .int .i64 0, .slice C m q] rfl (Row.fresh' _ _ 4 #[.int .i64 x1, .int .i64 0, .int .i64 0, .slice C m q] 1 _ (by simp) rfl hml1) (by simp [Value.oneCell']) HB2.out HX2.out (by simp; omega) ?_)
            intro A9 c9 w5 HO9 HG9 HL9
            go_wp2
            go_roundg (gk - 1)
            case measure => omega
            case rel =>
              refine ⟨k + 1, by omega, by go_num, ?_, (HE.out.trans HS.out.1).grown HG9.out fun g hg => (HU8.out.lt g hg).1⟩
              have hp := OwnRecs.push (d := (x1, 0, 0, vs)) (x := .slice C m q) HO.out (by decide) HS.out.1 (HS.out.2.2.2 hrow.out.ints_len) HG9.out (u' := .slice A9 (D.length + 1) c9) (fun vs' _ h' => by rw [own_uniq h' (HS.out.2.1 _ _ _ _ HU8.out)]; exact HO9.out)
              rw [HN.out, ← HD.out]
              unfold edtAt
              rw [E2.out, E3.out, E4.out]
              exact hp
          · have E2 : Hid (fr.getD k 0 = 0) := Lib.hid (getD_none (by rw [H2.out.ints_len]; omega))
            have E3 : Hid (to_.getD k 0 = 0) := Lib.hid (getD_none (by rw [H3.out.ints_len]; omega))
            have E4 : Hid (vals.getD k [] = []) := Lib.hid (getD_none (by rw [H4.out.len]; omega))
            go_wp2_with (with_reducible refine stand_at 55 ?_)
            refine Stand.mk (wpList_apps elEdit rfl _ _ rfl w.heap.size u9 D.length (recCells ecell D vs0) rfl (own_ext HU8.out (((Ext.refl wr).alloc _).alloc _)) _ 1 1 [.int .i64 x1, .int .i64 0, .int .i64 0, .slice none 0 0] rfl (Row.fresh' _ _ 4 #[.int .i64 x1, .int .i64 0, .int .i64 0, .slice none 0 0] 1 _ (by simp) rfl hml1) (by simp [Value.oneCell']) HB2.out HX2.out (by simp; omega) ?_)
            intro A9 c9 w5 HO9 HG9 HL9
            go_wp2
            go_roundg (gk - 1)
            case measure => omega
            case rel =>
              refine ⟨k + 1, by omega, by go_num, ?_, ((HE.out.alloc _).alloc _).grown HG9.out fun g hg => (HU8.out.lt g hg).1⟩
              have hp := OwnRecs.push (d := (x1, 0, 0, [])) (x := .slice none 0 0) HO.out (by decide) (((Ext.refl wr).alloc _).alloc _) (OffI.nil _ _) HG9.out (u' := .slice A9 (D.length + 1) c9) (fun vs' _ h' => by rw [own_uniq h' (own_ext HU8.out (((Ext.refl wr).alloc _).alloc _))]; exact HO9.out)
              rw [HN.out, ← HD.out]
              unfold edtAt
              rw [E2.out, E3.out, E4.out]
              exact hp
    · obtain rfl : k = n1 := by omega
      have e1 : ops.take k = ops := List.take_of_length_le (by rw [H1.out.ints_len]; exact Nat.le_refl _)
      rw [e1] at HO
      go_wp2
      go_ret
      exact ⟨_, rfl, HO.out, HE.out⟩
end Go.Proofs.Ytaimljagflnfpaa
