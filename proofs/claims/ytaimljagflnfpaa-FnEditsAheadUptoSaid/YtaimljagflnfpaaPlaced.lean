/- The contract of laws.placed: the edits at places that do not panic, and the same moved. No statement of the seat is proved here. -/
import Derived.Test.YtaimljagflnfpaaRecsCut
import Derived.Test.YtaimljagflnfpaaSpecEdited
import Derived.Test.YtaimljagflnfpaaPlacedPlain
namespace Go.Proofs.Ytaimljagflnfpaa
open Go.RowKit

/-- Two slices lie in two rows, or the first one is nil. -/
def Dj (u v : Value) : Prop := u.ownBlock = none ∨ u.ownBlock ≠ v.ownBlock
theorem Dj.symm {u v : Value} (h : Dj u v) : Dj v u := by
  rcases h with h | h
  · cases hv : v.ownBlock with
    | none => exact .inl hv
    | some g => exact .inr (by rw [h, hv]; simp)
  · exact .inr (Ne.symm h)
theorem Dj.grow {w : World} {base n : Nat} {e : TypeId} {sz : Nat} {u v v' : Value} {xs : List Value} (h : Dj u v) (hu : w.ownsRow base e sz u n xs) (hv : v'.ownBlock = v.ownBlock ∨ v'.ownBlock = some w.heap.size) : Dj u v' := by
  rcases hv with h1 | h1
  · unfold Dj; rw [h1]; exact h
  · cases hb : u.ownBlock with
    | none => exact .inl hb
    | some g =>
      refine .inr ?_
      rw [hb, h1]
      intro e
      injection e with e
      have := (hu.lt g hb).2
      omega
/-- A list that stays: one that came in, or one in a block of integers. -/
def Stay (w wr : World) (l : List Int) (v : Value) : Prop := (∃ A c, v = .slice A l.length c ∧ Row w 1 A l.length c (ints l)) ∨ OffI wr none l v
theorem Stay.row {w wr : World} {l : List Int} {A : Option Addr} {N c : Nat} (h : Stay w wr l (.slice A N c)) (hx : Ext w wr) : Row wr 1 A N c (ints l) ∧ N = l.length := by
  rcases h with ⟨A', c', e, hr⟩ | ⟨A', c', e, hr, _⟩
  · injection e with e1 e2 e3; subst e1 e2 e3; exact ⟨hr.ext hx, rfl⟩
  · injection e with e1 e2 e3; subst e1 e2 e3; exact ⟨hr, rfl⟩
/-- The slices in the loop of laws.placed. -/
structure PInv (w wr : World) (us : Value) (E : List Edt) (v1 v2 : Value) (O M : List Edt) (l : List Int) (v : Value) : Prop where
  ext : Ext w wr
  src : OwnEdts wr w.heap.size none us E
  own : OwnEdts wr w.heap.size none v1 O
  mov : OwnEdts wr w.heap.size none v2 M
  d1 : Dj us v1
  d2 : Dj us v2
  d3 : Dj v1 v2
  list : Stay w wr l v
section
variable {w wr : World} {us v1 v2 v : Value} {E O M : List Edt} {l : List Int}
theorem PInv.more (h : PInv w wr us E v1 v2 O M l v) {w1 : World} (hx : Ext wr w1) : PInv w w1 us E v1 v2 O M l v where
  ext := h.ext.trans hx
  src := OwnRecs.ext h.src hx
  own := OwnRecs.ext h.own hx
  mov := OwnRecs.ext h.mov hx
  d1 := h.d1
  d2 := h.d2
  d3 := h.d3
  list := by
    rcases h.list with h1 | h1
    · exact .inl h1
    · exact .inr (h1.ext hx)
theorem PInv.next (h : PInv w wr us E v1 v2 O M l v) {l' : List Int} {v' : Value} (hl : OffI wr none l' v') : PInv w wr us E v1 v2 O M l' v' :=
  ⟨h.ext, h.src, h.own, h.mov, h.d1, h.d2, h.d3, .inr hl⟩
theorem notInt_own {base n : Nat} {u : Value} {xs : List Value} (h : wr.ownsRow base 29 4 u n xs) : ∀ b cs, wr.heap[b]? = some (.cells cs 3 (0, 0)) → (none : Option Nat) ≠ some b → u.ownBlock ≠ some b := fun _ _ hb _ => row_ne h hb (by decide)
theorem Stay.keep {u : Value} {base n : Nat} {xs : List Value} {w3 : World} (h : Stay w wr l v) (hu : wr.ownsRow base 29 4 u n xs) (hg : wr.grownBy w3 u.ownBlock) : Stay w w3 l v := by
  rcases h with h1 | h1
  · exact .inl h1
  · exact .inr (h1.keep hg (notInt_own hu) (.inl rfl))
theorem own_row {base : Nat} {u : Value} {D : List Edt} (h : OwnEdts wr base none u D) : ∃ xs : List Value, wr.ownsRow base 29 4 u D.length xs := let ⟨_, _, h2, _⟩ := h; ⟨_, h2⟩
theorem PInv.push1 (h : PInv w wr us E v1 v2 O M l v) {w2 w3 : World} {v1' : Value} {d : Edt} {x : Value} (hx : Ext wr w2) (hv : OffI w2 none d.2.2.2 x) (hg : w2.grownBy w3 v1.ownBlock) (hb : v1'.ownBlock = v1.ownBlock ∨ v1'.ownBlock = some w2.heap.size)
    (ho : ∀ vs : List Value, vs.length = O.length → w2.ownsRow w.heap.size 29 4 v1 O.length (recCells ecell O vs) → w3.ownsRow w.heap.size 29 4 v1' (O.length + 1) (recCells ecell O vs ++ ecell d x)) : PInv w w3 us E v1' v2 (O ++ [d]) M l v := by
  have h2 := h.more hx
  obtain ⟨xs1, ho1⟩ := own_row h2.own
  obtain ⟨xs2, ho2⟩ := own_row h2.mov
  obtain ⟨xs3, ho3⟩ := own_row h2.src
  refine ⟨h2.ext.grown hg fun g hgg => (ho1.lt g hgg).1, ?_, ?_, ?_, h.d1.grow ho3 hb, h.d2, (h.d3.symm.grow ho2 hb).symm, h2.list.keep ho1 hg⟩
  · exact OwnRecs.keep h2.src hg h.d1 (notInt_own ho1) (.inl rfl)
  · exact OwnRecs.push h.own (by decide) hx hv hg ho
  · exact OwnRecs.keep h2.mov hg h.d3.symm (notInt_own ho1) (.inl rfl)
theorem PInv.push2 (h : PInv w wr us E v1 v2 O M l v) {w2 w3 : World} {v2' : Value} {d : Edt} {x : Value} (hx : Ext wr w2) (hv : OffI w2 none d.2.2.2 x) (hg : w2.grownBy w3 v2.ownBlock) (hb : v2'.ownBlock = v2.ownBlock ∨ v2'.ownBlock = some w2.heap.size)
    (ho : ∀ vs : List Value, vs.length = M.length → w2.ownsRow w.heap.size 29 4 v2 M.length (recCells ecell M vs) → w3.ownsRow w.heap.size 29 4 v2' (M.length + 1) (recCells ecell M vs ++ ecell d x)) : PInv w w3 us E v1 v2' O (M ++ [d]) l v := by
  have h2 := h.more hx
  obtain ⟨xs1, ho1⟩ := own_row h2.own
  obtain ⟨xs2, ho2⟩ := own_row h2.mov
  obtain ⟨xs3, ho3⟩ := own_row h2.src
  refine ⟨h2.ext.grown hg fun g hgg => (ho2.lt g hgg).1, ?_, ?_, ?_, h.d1, h.d2.grow ho3 hb, h.d3.grow ho1 hb, h2.list.keep ho2 hg⟩
  · exact OwnRecs.keep h2.src hg h.d2 (notInt_own ho2) (.inl rfl)
  · exact OwnRecs.keep h2.own hg h.d3 (notInt_own ho2) (.inl rfl)
  · exact OwnRecs.push h.mov (by decide) hx hv hg ho
end
/-- An edit of a row of the call's own, its values with their block. -/
theorem ownEdts_at {w : World} {base : Nat} {C : Option Addr} {n q : Nat} {E : List Edt} (h : OwnEdts w base none (.slice C n q) E) {k : Nat} (hk : k < n) :
    ∃ (b o : Nat) (op i j : Int) (vs : List Int) (B : Option Addr) (q' : Nat), C = some ⟨b, o, none⟩ ∧ Hid (E[k]? = some (op, i, j, vs)) ∧ w.cell? ⟨b, o + k * 4, none⟩ = some (.int .i64 op) ∧ w.cell? ⟨b, o + k * 4 + 1, none⟩ = some (.int .i64 i) ∧ w.cell? ⟨b, o + k * 4 + 2, none⟩ = some (.int .i64 j) ∧
      w.cell? ⟨b, o + k * 4 + 3, none⟩ = some (.slice B vs.length q') ∧ Hid (OffI w none vs (.slice B vs.length q')) := by
  obtain ⟨vs, hl, ho, hi⟩ := h
  obtain ⟨C', q0, e, hr⟩ := own_form ho
  injection e with e1 e2 e3
  subst e1 e2 e3
  obtain ⟨b, o, rfl, hc⟩ := hr.2.2.2 (by omega)
  have hd : E[k]? = some E[k] := List.getElem?_eq_getElem hk
  obtain ⟨x, hx, B, q', rfl, hrow, hblk⟩ := hi k _ hd
  have hg := fun t u (hu : (ecell E[k] (.slice B E[k].2.2.2.length q'))[t]? = some u) (ht : t < 4) => hc (k * 4 + t) u (by rw [recCells_get ecell_len E vs k _ _ hd hx t ht]; exact hu)
  refine ⟨b, o, E[k].1, E[k].2.1, E[k].2.2.1, E[k].2.2.2, B, q', rfl, hd, hg 0 _ rfl (by omega), ?_, ?_, ?_, ⟨B, q', rfl, hrow, hblk⟩⟩
  · rw [Nat.add_assoc]; exact hg 1 _ rfl (by omega)
  · rw [Nat.add_assoc]; exact hg 2 _ rfl (by omega)
  · rw [Nat.add_assoc]; exact hg 3 _ rfl (by omega)

set_option maxRecDepth 100000 in
set_option maxHeartbeats 3200000 in
theorem placed_walk (A0 A1 A2 A3 A4 : Option Addr) (n0 n1 n2 n3 n4 c0 c1 c2 c3 c4 : Nat) (xs ops fr to_ : List Int) (vals : List (List Int)) (by_ : Nat) (w : World) (h0 : Row w 1 A0 n0 c0 (ints xs)) (h1 : Row w 1 A1 n1 c1 (ints ops)) (h2 : Row w 1 A2 n2 c2 (ints fr)) (h3 : Row w 1 A3 n3 c3 (ints to_)) (h4 : Lists w A4 n4 c4 vals)
    (hn0 : n0 ≤ 1048576) (hn1 : n1 ≤ 1048576) (hv : vals.flatten.length ≤ 1048576) (hby : by_ ≤ 1048576) :
    Calls Try.prog 19 #[.slice A0 n0 c0, .slice A1 n1 c1, .slice A2 n2 c2, .slice A3 n3 c3, .slice A4 n4 c4, .int .i64 (by_ : Int)] w fun e w' => ∃ C1 C2 C3 q1 q2 q3 O M l, e = .returned (.tuple #[.slice C1 O.length q1, .slice C2 M.length q2, .slice C3 l.length q3]) ∧
      AllOk xs O ∧ l = eend xs O ∧ Moved (by_ : Int) O M ∧ evals O ≤ 1048576 ∧ O.length ≤ n1 ∧ Edts w' C1 O.length q1 O ∧ Edts w' C2 M.length q2 M ∧ Row w' 1 C3 l.length q3 (ints l) ∧ Ext w w' := by
  have hev := evals_le ops fr to_ vals
  have hel := scriptP_length ops fr to_ vals
  rw [h1.ints_len] at hel
  have hxn := h0.ints_len
  obtain ⟨E, hE⟩ : ∃ E, E = scriptP ops fr to_ vals := ⟨_, rfl⟩
  rw [← hE] at hev hel
  have H0 := Lib.hid h0
  have H1 := Lib.hid h1
  have H2 := Lib.hid h2
  have H3 := Lib.hid h3
  have H4 := Lib.hid h4
  have HE := Lib.hid hE
  have HEV := Lib.hid hev
  have HEL := Lib.hid hel
  have HXN := Lib.hid hxn
  have HV := Lib.hid hv
  clear h0 h1 h2 h3 h4 hev hel hE hxn hv
  go_enter Try.func19, Try.ntmps19
  go_wp2_with fail
  refine (script_ok A1 A2 A3 A4 n1 n2 n3 n4 c1 c2 c3 c4 ops fr to_ vals _ (H1.out.ext (((Ext.refl w).alloc _).alloc _)) (H2.out.ext (((Ext.refl w).alloc _).alloc _)) (H3.out.ext (((Ext.refl w).alloc _).alloc _)) (H4.out.ext (((Ext.refl w).alloc _).alloc _)) (by omega) (by have := HV.out; omega)).mono ?_
  rintro e w1 ⟨u, rfl, k1, k2⟩
  obtain ⟨C0, q0, rfl, -⟩ := script_form k1
  rw [← HE.out] at k1 ⊢
  rw [HEL.out] at k1 ⊢
  have hi0 : PInv w w1 (.slice C0 n1 q0) E (.slice (some ⟨w.heap.size, 0, none⟩) 0 0) (.slice (some ⟨w.heap.size + 1, 0, none⟩) 0 0) [] [] xs (.slice A0 n0 c0) := by
    obtain ⟨xs3, ho3⟩ := own_row k1
    have hz2 : ((w.alloc (.cells #[] 29)).alloc (.cells #[] 29)).heap.size = w.heap.size + 1 + 1 := by simp
    have hup : OwnEdts w1 w.heap.size none (.slice C0 n1 q0) E := let ⟨vs, g1, g2, g3⟩ := k1; ⟨vs, g1, own_up g2 (by omega), g3⟩
    refine ⟨(((Ext.refl w).alloc _).alloc _).trans k2, hup, OwnRecs.nil _ _ _ _ (own_ext ((own_lit0 w _ _).alloc _) k2), OwnRecs.nil _ _ _ _ (own_up (own_ext (own_lit0' (w.alloc (.cells #[] 29)) _ _ _ (by simp)) k2) (Nat.le_succ _)), ?_, ?_, .inr (by simp [Value.ownBlock]), .inl ⟨A0, c0, by rw [HXN.out], by rw [HXN.out]; exact H0.out⟩⟩
    · cases hb : (Value.slice C0 n1 q0).ownBlock with
      | none => exact .inl hb
      | some g => exact .inr (by rw [hb]; intro e; have := (ho3.lt g hb).1; simp [Value.ownBlock] at e; omega)
    · cases hb : (Value.slice C0 n1 q0).ownBlock with
      | none => exact .inl hb
      | some g => exact .inr (by rw [hb]; intro e; have := (ho3.lt g hb).1; simp [Value.ownBlock] at e; omega)
  have HI0 := Lib.hid hi0
  clear k1 k2 hi0
  go_wp2
  go_loopg [15, 16, 17, 31] n1 (fun kx v1 v2 v i wr => ∃ (k : Nat) (O M : List Edt) (l : List Int) (N c : Nat) (A : Option Addr), k + kx = n1 ∧ i = .int .i64 (k : Int) ∧ v = .slice A N c ∧ Hid (PInv w wr (.slice C0 n1 q0) E v1 v2 O M l (.slice A N c)) ∧ Hid ((O, l) = placedP xs (E.take k)) ∧ Hid (Moved (by_ : Int) O M))
  case atStart => exact ⟨0, [], [], xs, n0, c0, A0, by omega, rfl, rfl, HI0, rfl, trivial⟩
  case round =>
    obtain ⟨k, O, M, l, N, c, A, hk, rfl, rfl, HI, HPL, HMV⟩ := hrel
    obtain ⟨ok1, ok2, ok3, ok4⟩ := placed_ok xs (E.take k)
    rw [← HPL.out] at ok1 ok2 ok3 ok4
    simp only at ok1 ok2 ok3 ok4
    obtain ⟨hLr, hLN⟩ := HI.out.list.row HI.out.ext
    by_cases hlt : k < n1
    · obtain ⟨b, o, op, i, j, vs, V, q', rfl, he, hc1, hc2, hc3, hc4, HOFF⟩ := ownEdts_at HI.out.src (k := k) hlt
      have hrow : Row wr 1 V vs.length q' (ints vs) := by
        obtain ⟨B', q'', e, h, _⟩ := HOFF.out
        injection e with e1 e2 e3
        subst e1 e3
        exact h
      have hll : N + vs.length ≤ 2097152 := by
        have g1 := eend_length xs O
        rw [ok2, ← hLN, HXN.out] at g1
        have g2 := evals_take E (k + 1)
        rw [take_snoc he.out, evals_append] at g2
        simp only [evals] at g2
        have g3 := HEV.out
        have g4 := HV.out
        omega
      have hol : O.length ≤ 1048576 := by rw [List.length_take] at ok4; omega
      have HOL := Lib.hid hol
      have HML : Hid (M.length ≤ 1048576) := Lib.hid (by rw [(moved_evals HMV.out).2]; exact hol)
      have HLN : Hid (l.length ≤ 2097152) := Lib.hid (by omega)
      have hsp := specEdited_ok A N c l (op, i, j, vs) V q' _ (hLr.alloc (.cells #[.int .i64 op, .int .i64 i, .int .i64 j, .slice V vs.length q'] 29)) (hrow.alloc (.cells #[.int .i64 op, .int .i64 i, .int .i64 j, .slice V vs.length q'] 29)) (by omega) (by simp only; omega)
      simp only at hsp
      have HSP := Lib.hid hsp
      obtain ⟨p, hp⟩ : ∃ p, p = outP l (op, i, j, vs) := ⟨_, rfl⟩
      obtain ⟨l', hl'⟩ : ∃ l', l' = stepP l (op, i, j, vs) := ⟨_, rfl⟩
      have HP := Lib.hid hp
      have HL' := Lib.hid hl'
      have hvl := hrow.lim
      unfold maxLen at hvl
      clear hsp hp hl' ok1 ok2 ok3 ok4 hLr hLN hrow hol
      go_wp2_with fail
      refine HSP.out.mono ?_
      rintro e w4 ⟨C4, q4, rfl, k1, k2⟩
      rw [← HL'.out] at k1
      rw [← HP.out, ← HL'.out]
      have HOFF4 : Hid (OffI w4 none l' (.slice C4 l'.length q4)) := OffI.own k1 (by
        cases C4 with
        | none => exact .inr rfl
        | some a => exact .inl (by simp [Value.ownBlock]))
      have HX4 := Lib.hid k2
      have kb0 := blk_ext k2 (heap_alloc_new wr (.cells #[.int .i64 op, .int .i64 i, .int .i64 j, .slice V vs.length q'] 29))
      have p00 : w4.cell? ⟨wr.heap.size, 0, none⟩ = some (.int .i64 op) := (by simp [World.cell?, kb0])
      clear k1 k2 kb0
      cases p with
      | true =>
        go_wp2
        go_roundg (gk - 1)
        case measure => omega
        case rel =>
          refine ⟨k + 1, O, M, l, N, c, A, by omega, by go_num, rfl, HI.out.more (((Ext.refl wr).alloc _).trans HX4.out), ?_, HMV⟩
          have hq : okE l (op, i, j, vs) = false := by unfold okE; rw [← HP.out]; rfl
          refine Lib.hid ?_
          rw [take_snoc he.out, placedP_snoc, ← HPL.out]
          unfold placeS
          rw [if_neg (by rw [hq]; decide)]
      | false =>
        by_cases h0 : op < 0
        · have h0' : decide (op < 0) = true := by simpa using h0
          go_wp2
          go_roundg (gk - 1)
          case measure => omega
          case rel =>
            refine ⟨k + 1, O, M, l, N, c, A, by omega, by go_num, rfl, HI.out.more (((Ext.refl wr).alloc _).trans HX4.out), ?_, HMV⟩
            have hq : okE l (op, i, j, vs) = false := by unfold okE; simp; omega
            refine Lib.hid ?_
            rw [take_snoc he.out, placedP_snoc, ← HPL.out]
            unfold placeS
            rw [if_neg (by rw [hq]; decide)]
        by_cases h2 : 2 < op
        · have h2' : decide (2 < op) = true := by simpa using h2
          go_wp2
          go_roundg (gk - 1)
          case measure => omega
          case rel =>
            refine ⟨k + 1, O, M, l, N, c, A, by omega, by go_num, rfl, HI.out.more (((Ext.refl wr).alloc _).trans HX4.out), ?_, HMV⟩
            have hq : okE l (op, i, j, vs) = false := by unfold okE; simp; omega
            refine Lib.hid ?_
            rw [take_snoc he.out, placedP_snoc, ← HPL.out]
            unfold placeS
            rw [if_neg (by rw [hq]; decide)]
        have hop3 : op = 0 ∨ op = 1 ∨ op = 2 := by omega
        clear h0 h2 p00
        rcases hop3 with hop | hop | hop
        · subst hop
          have hok : okE l (0, i, j, vs) = true := by unfold okE; rw [← HP.out]; rfl
          obtain ⟨pa, pb, pc, pv, g1, g2, g3, g4, -⟩ := okE_parts hok
          simp only at g3 g4
          have hgl := congrArg List.length g1
          simp only [List.length_append] at hgl
          have hi1 : 0 ≤ i := by omega
          have hi2 : i ≤ 2097152 := by have := HLN.out; omega
          have HOK := Lib.hid hok
          clear hok g1 g2 g3 g4 hgl
          have hi4 := HI.out.more (((Ext.refl wr).alloc (.cells #[.int .i64 0, .int .i64 i, .int .i64 j, .slice V vs.length q'] 29)).trans HX4.out)
          have hi5 := hi4.next HOFF4.out
          obtain ⟨vsO, hvO, huO, -⟩ := hi5.own
          have HI5 := Lib.hid hi5
          have HUO := Lib.hid huO
          have HUR := Lib.hid (let ⟨_, _, h, _⟩ := HI.out.own; own_blk_ne h wr.heap.size (Nat.le_refl _))
          have kb := blk_ext HX4.out (heap_alloc_new wr (.cells #[.int .i64 0, .int .i64 i, .int .i64 j, .slice V vs.length q'] 29))
          have q00 : w4.cell? ⟨wr.heap.size, 0, none⟩ = some (.int .i64 0) := (by simp [World.cell?, kb])
          have q01 : w4.cell? ⟨wr.heap.size, 1, none⟩ = some (.int .i64 i) := (by simp [World.cell?, kb])
          have q02 : w4.cell? ⟨wr.heap.size, 2, none⟩ = some (.int .i64 j) := (by simp [World.cell?, kb])
          have q03 : w4.cell? ⟨wr.heap.size, 3, none⟩ = some (.slice V vs.length q') := (by simp [World.cell?, kb])
          have HKB := Lib.hid kb
          have hb1 : (O.length + 1) * 48 ≤ 140737488355328 := by have := HOL.out; omega
          have hx1 : O.length + 1 ≤ maxLen := by have := HOL.out; unfold maxLen; omega
          have hb2 : (M.length + 1) * 48 ≤ 140737488355328 := by have := HML.out; omega
          have hx2 : M.length + 1 ≤ maxLen := by have := HML.out; unfold maxLen; omega
          have HB1 := Lib.hid hb1
          have HX1 := Lib.hid hx1
          have HB2 := Lib.hid hb2
          have HX2 := Lib.hid hx2
          have hml1 : 1 ≤ maxLen := by unfold maxLen; omega
          have hz4 := hi5.ext.size
          clear hi4 hi5 hvO huO kb hb1 hx1 hb2 hx2
          go_wp2_with (with_reducible refine stand_at 63 ?_)
          refine Stand.mk (wpList_apps elEdit rfl _ _ rfl w.heap.size u15 O.length (recCells ecell O vsO) rfl (HUO.out.alloc _) _ 1 1 [.int .i64 0, .int .i64 i, .int .i64 j, .slice V vs.length q'] rfl (Row.fresh' _ _ 4 #[.int .i64 0, .int .i64 i, .int .i64 j, .slice V vs.length q'] 1 _ rfl rfl hml1) (by simp [Value.oneCell']) HB1.out HX1.out (by simp; omega) ?_)
          intro A9 c9 w5 HO9 HG9 HL9
          have hoffV := HOFF.out.ext (((Ext.refl wr).alloc (.cells #[.int .i64 0, .int .i64 i, .int .i64 j, .slice V vs.length q'] 29)).trans HX4.out)
          have hi6 := HI5.out.push1 (d := (0, i, j, vs)) (x := .slice V vs.length q') ((Ext.refl w4).alloc (.cells #[.int .i64 0, .int .i64 i, .int .i64 j, .slice V vs.length q'] 29)) (hoffV.ext ((Ext.refl _).alloc _)) HG9.out HL9.out (fun vs' _ h' => by rw [own_uniq h' (HUO.out.alloc _)]; exact HO9.out)
          have hoff5 : OffI w5 none vs (.slice V vs.length q') := (hoffV.ext ((Ext.refl _).alloc _)).keep HG9.out (notInt_own (HUO.out.alloc _)) (.inl rfl)
          have kb5 := blk_grown HG9.out (blk_ext ((Ext.refl w4).alloc _) HKB.out) HUR.out
          obtain ⟨vsM, hvM, huM, -⟩ := hi6.mov
          have HI6 := Lib.hid hi6
          have HUM := Lib.hid huM
          have HOFF5 := Lib.hid hoff5
          have r00 : w5.cell? ⟨wr.heap.size, 0, none⟩ = some (.int .i64 0) := (by simp [World.cell?, kb5])
          have r01 : w5.cell? ⟨wr.heap.size, 1, none⟩ = some (.int .i64 i) := (by simp [World.cell?, kb5])
          have r02 : w5.cell? ⟨wr.heap.size, 2, none⟩ = some (.int .i64 j) := (by simp [World.cell?, kb5])
          have r03 : w5.cell? ⟨wr.heap.size, 3, none⟩ = some (.slice V vs.length q') := (by simp [World.cell?, kb5])
          have hz5 := hi6.ext.size
          clear hoffV hi6 hoff5 kb5 hvM huM q00 q01 q02 q03
          go_wp2_with (with_reducible refine stand_at 79 ?_)
          refine Stand.mk (wpList_apps elEdit rfl _ _ rfl w.heap.size u16 M.length (recCells ecell M vsM) rfl (HUM.out.alloc _) _ 1 1 [.int .i64 0, .int .i64 (i + (by_ : Int)), .int .i64 (wrap64 (j + (by_ : Int))), .slice V vs.length q'] rfl (Row.fresh' _ _ 4 #[.int .i64 0, .int .i64 (i + (by_ : Int)), .int .i64 (wrap64 (j + (by_ : Int))), .slice V vs.length q'] 1 _ rfl rfl hml1) (by simp [Value.oneCell']) HB2.out HX2.out (by simp; omega) ?_)
          intro A10 c10 w6 HO10 HG10 HL10
          have hi7 := HI6.out.push2 (d := (0, i + (by_ : Int), (wrap64 (j + (by_ : Int))), vs)) (x := .slice V vs.length q') ((Ext.refl w5).alloc (.cells #[.int .i64 0, .int .i64 (i + (by_ : Int)), .int .i64 (wrap64 (j + (by_ : Int))), .slice V vs.length q'] 29)) (HOFF5.out.ext ((Ext.refl _).alloc _)) HG10.out HL10.out (fun vs' _ h' => by rw [own_uniq h' (HUM.out.alloc _)]; exact HO10.out)
          have HI7 := Lib.hid hi7
          clear hi7 r00 r01 r02 r03
          go_wp2
          go_roundg (gk - 1)
          case measure => omega
          case rel =>
            refine ⟨k + 1, O ++ [(0, i, j, vs)], M ++ [(0, i + (by_ : Int), (wrap64 (j + (by_ : Int))), vs)], l', l'.length, q4, C4, by omega, by go_num, rfl, HI7, ?_, moved_snoc HMV.out ⟨rfl, rfl, rfl, fun h => absurd rfl h⟩⟩
            refine Lib.hid ?_
            rw [take_snoc he.out, placedP_snoc, ← HPL.out]
            unfold placeS
            rw [if_pos HOK.out, HL'.out]
        · subst hop
          have hok : okE l (1, i, j, vs) = true := by unfold okE; rw [← HP.out]; rfl
          obtain ⟨pa, pb, pc, pv, g1, g2, g3, g4, -⟩ := okE_parts hok
          simp only at g3 g4
          have hgl := congrArg List.length g1
          simp only [List.length_append] at hgl
          have hi1 : 0 ≤ i := by omega
          have hi2 : i ≤ 2097152 := by have := HLN.out; omega
          have hj4 : j ≤ 2097152 := by have := HLN.out; rcases g4 with g4 | g4 <;> omega
          have hj5 : 0 ≤ j := by rcases g4 with g4 | g4 <;> omega
          have HOK := Lib.hid hok
          clear hok g1 g2 g3 g4 hgl
          have hi4 := HI.out.more (((Ext.refl wr).alloc (.cells #[.int .i64 1, .int .i64 i, .int .i64 j, .slice V vs.length q'] 29)).trans HX4.out)
          have hi5 := hi4.next HOFF4.out
          obtain ⟨vsO, hvO, huO, -⟩ := hi5.own
          have HI5 := Lib.hid hi5
          have HUO := Lib.hid huO
          have HUR := Lib.hid (let ⟨_, _, h, _⟩ := HI.out.own; own_blk_ne h wr.heap.size (Nat.le_refl _))
          have kb := blk_ext HX4.out (heap_alloc_new wr (.cells #[.int .i64 1, .int .i64 i, .int .i64 j, .slice V vs.length q'] 29))
          have q00 : w4.cell? ⟨wr.heap.size, 0, none⟩ = some (.int .i64 1) := (by simp [World.cell?, kb])
          have q01 : w4.cell? ⟨wr.heap.size, 1, none⟩ = some (.int .i64 i) := (by simp [World.cell?, kb])
          have q02 : w4.cell? ⟨wr.heap.size, 2, none⟩ = some (.int .i64 j) := (by simp [World.cell?, kb])
          have q03 : w4.cell? ⟨wr.heap.size, 3, none⟩ = some (.slice V vs.length q') := (by simp [World.cell?, kb])
          have HKB := Lib.hid kb
          have hb1 : (O.length + 1) * 48 ≤ 140737488355328 := by have := HOL.out; omega
          have hx1 : O.length + 1 ≤ maxLen := by have := HOL.out; unfold maxLen; omega
          have hb2 : (M.length + 1) * 48 ≤ 140737488355328 := by have := HML.out; omega
          have hx2 : M.length + 1 ≤ maxLen := by have := HML.out; unfold maxLen; omega
          have HB1 := Lib.hid hb1
          have HX1 := Lib.hid hx1
          have HB2 := Lib.hid hb2
          have HX2 := Lib.hid hx2
          have hml1 : 1 ≤ maxLen := by unfold maxLen; omega
          have hz4 := hi5.ext.size
          clear hi4 hi5 hvO huO kb hb1 hx1 hb2 hx2
          go_wp2_with (with_reducible refine stand_at 63 ?_)
          refine Stand.mk (wpList_apps elEdit rfl _ _ rfl w.heap.size u15 O.length (recCells ecell O vsO) rfl (HUO.out.alloc _) _ 1 1 [.int .i64 1, .int .i64 i, .int .i64 j, .slice V vs.length q'] rfl (Row.fresh' _ _ 4 #[.int .i64 1, .int .i64 i, .int .i64 j, .slice V vs.length q'] 1 _ rfl rfl hml1) (by simp [Value.oneCell']) HB1.out HX1.out (by simp; omega) ?_)
          intro A9 c9 w5 HO9 HG9 HL9
          have hoffV := HOFF.out.ext (((Ext.refl wr).alloc (.cells #[.int .i64 1, .int .i64 i, .int .i64 j, .slice V vs.length q'] 29)).trans HX4.out)
          have hi6 := HI5.out.push1 (d := (1, i, j, vs)) (x := .slice V vs.length q') ((Ext.refl w4).alloc (.cells #[.int .i64 1, .int .i64 i, .int .i64 j, .slice V vs.length q'] 29)) (hoffV.ext ((Ext.refl _).alloc _)) HG9.out HL9.out (fun vs' _ h' => by rw [own_uniq h' (HUO.out.alloc _)]; exact HO9.out)
          have hoff5 : OffI w5 none vs (.slice V vs.length q') := (hoffV.ext ((Ext.refl _).alloc _)).keep HG9.out (notInt_own (HUO.out.alloc _)) (.inl rfl)
          have kb5 := blk_grown HG9.out (blk_ext ((Ext.refl w4).alloc _) HKB.out) HUR.out
          obtain ⟨vsM, hvM, huM, -⟩ := hi6.mov
          have HI6 := Lib.hid hi6
          have HUM := Lib.hid huM
          have HOFF5 := Lib.hid hoff5
          have r00 : w5.cell? ⟨wr.heap.size, 0, none⟩ = some (.int .i64 1) := (by simp [World.cell?, kb5])
          have r01 : w5.cell? ⟨wr.heap.size, 1, none⟩ = some (.int .i64 i) := (by simp [World.cell?, kb5])
          have r02 : w5.cell? ⟨wr.heap.size, 2, none⟩ = some (.int .i64 j) := (by simp [World.cell?, kb5])
          have r03 : w5.cell? ⟨wr.heap.size, 3, none⟩ = some (.slice V vs.length q') := (by simp [World.cell?, kb5])
          have hz5 := hi6.ext.size
          clear hoffV hi6 hoff5 kb5 hvM huM q00 q01 q02 q03
          go_wp2_with (with_reducible refine stand_at 79 ?_)
          refine Stand.mk (wpList_apps elEdit rfl _ _ rfl w.heap.size u16 M.length (recCells ecell M vsM) rfl (HUM.out.alloc _) _ 1 1 [.int .i64 1, .int .i64 (i + (by_ : Int)), .int .i64 (j + (by_ : Int)), .slice V vs.length q'] rfl (Row.fresh' _ _ 4 #[.int .i64 1, .int .i64 (i + (by_ : Int)), .int .i64 (j + (by_ : Int)), .slice V vs.length q'] 1 _ rfl rfl hml1) (by simp [Value.oneCell']) HB2.out HX2.out (by simp; omega) ?_)
          intro A10 c10 w6 HO10 HG10 HL10
          have hi7 := HI6.out.push2 (d := (1, i + (by_ : Int), (j + (by_ : Int)), vs)) (x := .slice V vs.length q') ((Ext.refl w5).alloc (.cells #[.int .i64 1, .int .i64 (i + (by_ : Int)), .int .i64 (j + (by_ : Int)), .slice V vs.length q'] 29)) (HOFF5.out.ext ((Ext.refl _).alloc _)) HG10.out HL10.out (fun vs' _ h' => by rw [own_uniq h' (HUM.out.alloc _)]; exact HO10.out)
          have HI7 := Lib.hid hi7
          clear hi7 r00 r01 r02 r03
          go_wp2
          go_roundg (gk - 1)
          case measure => omega
          case rel =>
            refine ⟨k + 1, O ++ [(1, i, j, vs)], M ++ [(1, i + (by_ : Int), (j + (by_ : Int)), vs)], l', l'.length, q4, C4, by omega, by go_num, rfl, HI7, ?_, moved_snoc HMV.out ⟨rfl, rfl, rfl, fun h => rfl⟩⟩
            refine Lib.hid ?_
            rw [take_snoc he.out, placedP_snoc, ← HPL.out]
            unfold placeS
            rw [if_pos HOK.out, HL'.out]
        · subst hop
          have hok : okE l (2, i, j, vs) = true := by unfold okE; rw [← HP.out]; rfl
          obtain ⟨pa, pb, pc, pv, g1, g2, g3, g4, -⟩ := okE_parts hok
          simp only at g3 g4
          have hgl := congrArg List.length g1
          simp only [List.length_append] at hgl
          have hi1 : 0 ≤ i := by omega
          have hi2 : i ≤ 2097152 := by have := HLN.out; omega
          have hj4 : j ≤ 2097152 := by have := HLN.out; rcases g4 with g4 | g4 <;> omega
          have hj5 : 0 ≤ j := by rcases g4 with g4 | g4 <;> omega
          have HOK := Lib.hid hok
          clear hok g1 g2 g3 g4 hgl
          have hi4 := HI.out.more (((Ext.refl wr).alloc (.cells #[.int .i64 2, .int .i64 i, .int .i64 j, .slice V vs.length q'] 29)).trans HX4.out)
          have hi5 := hi4.next HOFF4.out
          obtain ⟨vsO, hvO, huO, -⟩ := hi5.own
          have HI5 := Lib.hid hi5
          have HUO := Lib.hid huO
          have HUR := Lib.hid (let ⟨_, _, h, _⟩ := HI.out.own; own_blk_ne h wr.heap.size (Nat.le_refl _))
          have kb := blk_ext HX4.out (heap_alloc_new wr (.cells #[.int .i64 2, .int .i64 i, .int .i64 j, .slice V vs.length q'] 29))
          have q00 : w4.cell? ⟨wr.heap.size, 0, none⟩ = some (.int .i64 2) := (by simp [World.cell?, kb])
          have q01 : w4.cell? ⟨wr.heap.size, 1, none⟩ = some (.int .i64 i) := (by simp [World.cell?, kb])
          have q02 : w4.cell? ⟨wr.heap.size, 2, none⟩ = some (.int .i64 j) := (by simp [World.cell?, kb])
          have q03 : w4.cell? ⟨wr.heap.size, 3, none⟩ = some (.slice V vs.length q') := (by simp [World.cell?, kb])
          have HKB := Lib.hid kb
          have hb1 : (O.length + 1) * 48 ≤ 140737488355328 := by have := HOL.out; omega
          have hx1 : O.length + 1 ≤ maxLen := by have := HOL.out; unfold maxLen; omega
          have hb2 : (M.length + 1) * 48 ≤ 140737488355328 := by have := HML.out; omega
          have hx2 : M.length + 1 ≤ maxLen := by have := HML.out; unfold maxLen; omega
          have HB1 := Lib.hid hb1
          have HX1 := Lib.hid hx1
          have HB2 := Lib.hid hb2
          have HX2 := Lib.hid hx2
          have hml1 : 1 ≤ maxLen := by unfold maxLen; omega
          have hz4 := hi5.ext.size
          clear hi4 hi5 hvO huO kb hb1 hx1 hb2 hx2
          go_wp2_with (with_reducible refine stand_at 63 ?_)
          refine Stand.mk (wpList_apps elEdit rfl _ _ rfl w.heap.size u15 O.length (recCells ecell O vsO) rfl (HUO.out.alloc _) _ 1 1 [.int .i64 2, .int .i64 i, .int .i64 j, .slice V vs.length q'] rfl (Row.fresh' _ _ 4 #[.int .i64 2, .int .i64 i, .int .i64 j, .slice V vs.length q'] 1 _ rfl rfl hml1) (by simp [Value.oneCell']) HB1.out HX1.out (by simp; omega) ?_)
          intro A9 c9 w5 HO9 HG9 HL9
          have hoffV := HOFF.out.ext (((Ext.refl wr).alloc (.cells #[.int .i64 2, .int .i64 i, .int .i64 j, .slice V vs.length q'] 29)).trans HX4.out)
          have hi6 := HI5.out.push1 (d := (2, i, j, vs)) (x := .slice V vs.length q') ((Ext.refl w4).alloc (.cells #[.int .i64 2, .int .i64 i, .int .i64 j, .slice V vs.length q'] 29)) (hoffV.ext ((Ext.refl _).alloc _)) HG9.out HL9.out (fun vs' _ h' => by rw [own_uniq h' (HUO.out.alloc _)]; exact HO9.out)
          have hoff5 : OffI w5 none vs (.slice V vs.length q') := (hoffV.ext ((Ext.refl _).alloc _)).keep HG9.out (notInt_own (HUO.out.alloc _)) (.inl rfl)
          have kb5 := blk_grown HG9.out (blk_ext ((Ext.refl w4).alloc _) HKB.out) HUR.out
          obtain ⟨vsM, hvM, huM, -⟩ := hi6.mov
          have HI6 := Lib.hid hi6
          have HUM := Lib.hid huM
          have HOFF5 := Lib.hid hoff5
          have r00 : w5.cell? ⟨wr.heap.size, 0, none⟩ = some (.int .i64 2) := (by simp [World.cell?, kb5])
          have r01 : w5.cell? ⟨wr.heap.size, 1, none⟩ = some (.int .i64 i) := (by simp [World.cell?, kb5])
          have r02 : w5.cell? ⟨wr.heap.size, 2, none⟩ = some (.int .i64 j) := (by simp [World.cell?, kb5])
          have r03 : w5.cell? ⟨wr.heap.size, 3, none⟩ = some (.slice V vs.length q') := (by simp [World.cell?, kb5])
          have hz5 := hi6.ext.size
          clear hoffV hi6 hoff5 kb5 hvM huM q00 q01 q02 q03
          go_wp2_with (with_reducible refine stand_at 79 ?_)
          refine Stand.mk (wpList_apps elEdit rfl _ _ rfl w.heap.size u16 M.length (recCells ecell M vsM) rfl (HUM.out.alloc _) _ 1 1 [.int .i64 2, .int .i64 (i + (by_ : Int)), .int .i64 (j + (by_ : Int)), .slice V vs.length q'] rfl (Row.fresh' _ _ 4 #[.int .i64 2, .int .i64 (i + (by_ : Int)), .int .i64 (j + (by_ : Int)), .slice V vs.length q'] 1 _ rfl rfl hml1) (by simp [Value.oneCell']) HB2.out HX2.out (by simp; omega) ?_)
          intro A10 c10 w6 HO10 HG10 HL10
          have hi7 := HI6.out.push2 (d := (2, i + (by_ : Int), (j + (by_ : Int)), vs)) (x := .slice V vs.length q') ((Ext.refl w5).alloc (.cells #[.int .i64 2, .int .i64 (i + (by_ : Int)), .int .i64 (j + (by_ : Int)), .slice V vs.length q'] 29)) (HOFF5.out.ext ((Ext.refl _).alloc _)) HG10.out HL10.out (fun vs' _ h' => by rw [own_uniq h' (HUM.out.alloc _)]; exact HO10.out)
          have HI7 := Lib.hid hi7
          clear hi7 r00 r01 r02 r03
          go_wp2
          go_roundg (gk - 1)
          case measure => omega
          case rel =>
            refine ⟨k + 1, O ++ [(2, i, j, vs)], M ++ [(2, i + (by_ : Int), (j + (by_ : Int)), vs)], l', l'.length, q4, C4, by omega, by go_num, rfl, HI7, ?_, moved_snoc HMV.out ⟨rfl, rfl, rfl, fun h => rfl⟩⟩
            refine Lib.hid ?_
            rw [take_snoc he.out, placedP_snoc, ← HPL.out]
            unfold placeS
            rw [if_pos HOK.out, HL'.out]
    · obtain rfl : k = n1 := by omega
      have e1 : E.take k = E := List.take_of_length_le (by rw [HEL.out]; exact Nat.le_refl _)
      rw [e1] at ok3 ok4
      obtain ⟨C1, q1, rfl, g1⟩ := OwnRecs.recs HI.out.own
      obtain ⟨C2, q2, rfl, g2⟩ := OwnRecs.recs HI.out.mov
      subst hLN
      have HR1 := Lib.hid g1
      have HR2 := Lib.hid g2
      have HLR := Lib.hid hLr
      have HOK := Lib.hid (And.intro ok1 (And.intro ok2 (And.intro ok3 ok4)))
      clear g1 g2 hLr ok1 ok2 ok3 ok4 e1
      go_wp2
      refine bodyPost_ret (v := .tuple #[.slice C1 O.length q1, .slice C2 M.length q2, .slice A l.length c]) (by simp [results, Try.results19, go_sem]) rfl ⟨C1, C2, A, q1, q2, c, O, M, l, rfl, HOK.out.1, HOK.out.2.1.symm, HMV.out, ?_, ?_, HR1.out, HR2.out, HLR.out, HI.out.ext⟩
      · have g3 := HOK.out.2.2.1
        have g4 := HEV.out
        have g5 := HV.out
        omega
      · have g3 := HOK.out.2.2.2
        rw [HEL.out] at g3
        exact g3
end Go.Proofs.Ytaimljagflnfpaa
