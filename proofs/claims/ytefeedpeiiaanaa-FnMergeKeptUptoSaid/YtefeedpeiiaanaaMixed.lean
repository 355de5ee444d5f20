/- The contract of laws.mixed: items in another order. No statement of the seat is proved here. -/
import Derived.Test.YtefeedpeiiaanaaDones
import Derived.Test.YtefeedpeiiaanaaPut
import Derived.ArgAppend
import Derived.IntWalk
import Derived.Deep.LoopGhost
import Derived.Deep.RegionHeld3
namespace Go.Proofs.Ytefeedpeiiaanaa
open Go.RowKit

section
variable {P : Program} {t e : TypeId} {sz bytes : Nat}
/-- append onto a slice without spare room: nothing that was there is written. -/
theorem run_app_tight (E : El P t e sz bytes) (w : World) (ty : TypeId) (A : Option Addr) (n : Nat) (cs : List Value) (hr : Row w sz A n n cs) (B : Option Addr) (m c : Nat) (news : List Value) (hs : Row w sz B m c news) (h63 : n + m ≤ maxLen) (hbytes : (n + m) * bytes ≤ 140737488355328) (hA : 0 < n ∨ ∃ b o, A = some ⟨b, o, none⟩) :
    ∃ A' c' w', (Builtin.append_ #[t, t] ty #[.slice A n n, .slice B m c]).run P w = .ok (.slice A' (n + m) c') w' ∧ Row w' sz A' (n + m) c' (cs ++ news) ∧ Ext w w' ∧ ((A' = A ∧ m = 0 ∧ w' = w) ∨ ∃ g, A' = some ⟨g, 0, none⟩ ∧ w.heap.size ≤ g ∧ ∃ k, w'.heap[g]? = some (.cells k e (0, 0))) := by
  obtain ⟨b, o, rfl⟩ : ∃ b o, A = some ⟨b, o, none⟩ := by
    rcases hA with h | h
    · obtain ⟨b, o, h1, _⟩ := hr.2.2.2 h; exact ⟨b, o, h1⟩
    · exact h
  obtain ⟨ht, ⟨i, z, hi, hz, hsz, hby, hzs⟩, hpos⟩ := E
  rcases Nat.eq_zero_or_pos m with h0 | h0
  · subst h0
    have hn : news = [] := List.eq_nil_of_length_eq_zero (by simpa using hs.1)
    subst hn
    refine ⟨_, n, w, ?_, by simpa using hr, Ext.refl w, .inl ⟨rfl, rfl, rfl⟩⟩
    cases B with
    | none => simp [Builtin.append_, run_underlying ht, sizeOf, typeInfo, hi, Builtin.lenOf, Builtin.firstCells, storeCells]
    | some a => simp [Builtin.append_, run_underlying ht, sizeOf, typeInfo, hi, Builtin.lenOf, Builtin.firstCells, storeCells, loadCells, loadCellsFrom]
  · obtain ⟨b2, o2, rfl, hc2⟩ := hs.2.2.2 h0
    have hc1 : ∀ j u, cs[j]? = some u → w.cell? ((⟨b, o, none⟩ : Addr).add j) = some u := by
      intro j u hu
      rw [add_zero_off]
      have hn : 0 < n := by
        rcases Nat.eq_zero_or_pos n with h | h
        · subst h
          have : cs = [] := List.eq_nil_of_length_eq_zero (by simpa using hr.1)
          subst this; simp at hu
        · exact h
      obtain ⟨b', o', e1, hc⟩ := hr.2.2.2 hn
      injection e1 with e1
      injection e1 with e1 e2
      subst e1 e2
      exact hc j u hu
    obtain ⟨v', w', hrun, hown, hg⟩ := run_append_arg_grows (P := P) (w := w) t ty e i z sz bytes ht hi hz hsz hby hzs hpos ⟨b, o, none⟩ n n cs hr.1 hc1 ⟨b2, o2, none⟩ m c news hs.1 (fun j u hu => by rw [add_zero_off]; exact hc2 j u hu) (by omega) h63 hbytes
    rcases own_cases hown with ⟨_, h1, _⟩ | ⟨g, c', cur, rfl, hb, hk, _⟩
    · omega
    · exact ⟨_, c', w', hrun, Row.own hown, ext_of_grown hg, .inr ⟨g, rfl, hb, _, hk⟩⟩
end

theorem own_mono {w : World} {base base' : Nat} {e : TypeId} {sz n : Nat} {v : Value} {xs : List Value} (h : w.ownsRow base e sz v n xs) (hb : base' ≤ base) : w.ownsRow base' e sz v n xs := by
  refine ⟨h.1, ?_⟩
  rcases h.2 with h1 | ⟨g, cap, cur, h1, h2, h3⟩
  · exact .inl h1
  · exact .inr ⟨g, cap, cur, h1, Nat.le_trans hb h2, h3⟩
/-- In the loop of laws.mixed: what has been taken out, and what is left. -/
def MInv (w wr : World) (n : Nat) (xs : List (Int × Int)) (u : Value) (LO LL : List (Int × Int)) (b o q : Nat) : Prop :=
  wr.ownsRow w.heap.size 28 2 u LO.length (its LO) ∧ Row wr 2 (some ⟨b, o, none⟩) LL.length q (its LL) ∧ u.ownBlock ≠ some b ∧ (∃ cs, wr.heap[b]? = some (.cells cs 28 (0, 0))) ∧ (LO ++ LL).Perm xs ∧ LO.length + LL.length = n ∧ Ext w wr
theorem mod_at (x : Int) (l : Nat) (hl : 0 < l) : ∃ (t : Int) (a : Nat), x.tmod (l : Int) = t ∧ -(l : Int) < t ∧ t < (l : Int) ∧ a < l ∧ (t + (l : Int)).tmod (l : Int) = (a : Int) ∧ (t + (l : Int)) % (l : Int) = (a : Int) := by
  have h1 : x.tmod (l : Int) < (l : Int) := Int.tmod_lt_of_pos _ (by omega)
  have h2 : -(l : Int) < x.tmod (l : Int) := by
    have := Int.tmod_lt_of_pos (-x) (b := (l : Int)) (by omega)
    rw [Int.neg_tmod] at this
    omega
  have h3 : (x.tmod (l : Int) + (l : Int)).tmod (l : Int) = (x.tmod (l : Int) + (l : Int)) % (l : Int) := Int.tmod_eq_emod_of_nonneg (by omega)
  have h4 := Int.emod_nonneg (x.tmod (l : Int) + (l : Int)) (b := (l : Int)) (by omega)
  have h5 := Int.emod_lt_of_pos (x.tmod (l : Int) + (l : Int)) (b := (l : Int)) (by omega)
  exact ⟨_, ((x.tmod (l : Int) + (l : Int)) % (l : Int)).toNat, rfl, h2, h1, by omega, by rw [h3]; omega, by omega⟩
theorem perm_take_out {LO LL xs : List (Int × Int)} {a : Nat} {x : Int × Int} (hp : (LO ++ LL).Perm xs) (hx : LL[a]? = some x) : ((LO ++ [x]) ++ (LL.take a ++ LL.drop (a + 1))).Perm xs := by
  obtain ⟨h3, h4⟩ := List.getElem?_eq_some_iff.1 hx
  have hs : LL = LL.take a ++ x :: LL.drop (a + 1) := by rw [← h4, ← List.drop_eq_getElem_cons h3, List.take_append_drop]
  have h5 : (x :: (LL.take a ++ LL.drop (a + 1))).Perm LL := by
    conv => rhs; rw [hs]
    exact List.perm_middle.symm
  rw [List.append_assoc, List.singleton_append]
  exact (List.Perm.append_left LO h5).trans hp
theorem out_len {LL : List (Int × Int)} {a : Nat} (ha : a < LL.length) : (LL.take a ++ LL.drop (a + 1)).length = a + (LL.length - (a + 1)) := by
  rw [List.length_append, List.length_take, List.length_drop]; omega

set_option maxRecDepth 100000 in
set_option maxHeartbeats 1600000 in
theorem mixed_ok (A B : Option Addr) (n m c d : Nat) (xs : List (Int × Int)) (order : List Int) (w : World) (hx : Row w 2 A n c (its xs)) (ho : Row w 1 B m d (ints order)) (hs : n ≤ 1099511620000) :
    Calls Try.prog 13 #[.slice A n c, .slice B m d] w fun e w' => ∃ C k L, e = .returned (.slice C n k) ∧ Row w' 2 C n k (its L) ∧ L.Perm xs ∧ Ext w w' := by
  have HX := Lib.hid hx
  have HO := Lib.hid ho
  have hml := ho.lim
  unfold maxLen at hml
  clear hx ho
  go_enter Try.func13, Try.ntmps13
  go_wp2_with (at_builtin; refine Stand.out ?_)
  refine Stand.mk (wpList_apps elItem rfl _ _ rfl w.heap.size (.slice (some ⟨w.heap.size, 0, none⟩) 0 0) 0 [] rfl (own_lit0 w _ _) A n c (its xs) rfl (HX.out.alloc _) (its_one _) (by omega) (by unfold maxLen; omega) (by simp) ?_)
  intro A1 c1 w1 HO1 HG1 HL1
  have ho1 := HO1.out
  rw [Nat.zero_add, List.nil_append] at ho1
  have hx1 : Ext w w1 := ((Ext.refl w).alloc _).grown HG1.out fun g hg => by simp [Value.ownBlock] at hg; omega
  rw [Nat.zero_add]
  obtain ⟨g1, rfl⟩ : ∃ g, A1 = some ⟨g, 0, none⟩ := by
    rcases own_cases ho1 with ⟨hv, h0, _⟩ | ⟨g, c', cur, hv, _⟩
    · rcases HL1.out with h | h
      · injection hv with h1
        subst h1
        cases h
      · injection hv with h1
        subst h1
        cases h
    · injection hv with h1
      exact ⟨g, h1⟩
  have HM0 : Hid (MInv w (w1.alloc (.cells #[] 28)) n xs (.slice (some ⟨w1.heap.size, 0, none⟩) 0 0) [] xs g1 0 c1) := by
    have hl : xs.length = n := HX.out.its_len
    have hb := ho1.lt g1 rfl
    refine ⟨own_ext (base := w.heap.size) (w := w1.alloc (.cells #[] 28)) (own_mono (own_lit0 w1 _ 2) hx1.size) (Ext.refl _), ?_, ?_, ?_, List.Perm.refl _, by simpa using hl, hx1.alloc _⟩
    · rw [hl]; exact (Row.own ho1).alloc _
    · simp [Value.ownBlock]; omega
    · rcases own_cases ho1 with ⟨hv, _⟩ | ⟨g, c', cur, hv, _, hk, _⟩
      · cases hv
      · injection hv with h1
        injection h1 with h1
        injection h1 with h1
        subst h1
        exact ⟨_, blk_ext ((Ext.refl w1).alloc _) hk⟩
  clear HO1 HG1 HL1 ho1 hx1
  go_wp2
  go_loopg [5, 6, 16] m (fun kx v u i wr => ∃ (k b o q l : Nat) (LO LL : List (Int × Int)), k + kx = m ∧ i = .int .i64 (k : Int) ∧ v = .slice (some ⟨b, o, none⟩) l q ∧ Hid (LL.length = l) ∧ Hid (MInv w wr n xs u LO LL b o q))
  case atStart => exact ⟨0, g1, 0, c1, n, [], xs, by omega, rfl, rfl, HX.out.its_len, HM0.out⟩
  case round =>
    obtain ⟨k, b, o, q, l, LO, LL, hk, rfl, rfl, HLL, HM⟩ := hrel
    have hln : l ≤ n := by have h1 := HLL.out; have h2 := HM.out.2.2.2.2.2.1; omega
    have hlq : l ≤ q := by have h1 := HM.out.2.1.le; have h2 := HLL.out; omega
    have hqm : q ≤ 9223372036854775807 := by have h1 := HM.out.2.1.cap; unfold maxLen at h1; omega
    by_cases hgo : k < m ∧ 0 < l
    · obtain ⟨hkm, hl0⟩ := hgo
      obtain ⟨b5, o5, x, rfl, hxk, hcx⟩ := (HO.out.ext HM.out.2.2.2.2.2.2).int_at (k := k) hkm
      obtain ⟨t, a, et, ht1, ht2, hal, ea1, ea2⟩ := mod_at x l hl0
      have hl00 : ((l : Int) == 0) = false := by simp; omega
      have hrow : Row wr 2 (some ⟨b, o, none⟩) l q (its LL) := by rw [← HLL.out]; exact HM.out.2.1
      obtain ⟨b6, o6, y1, y2, hbo, hyk, hd1, hd2⟩ := hrow.item_at (k := a) hal
      injection hbo with hbo
      injection hbo with hbo1 hbo2
      subst hbo1 hbo2
      have HRW := Lib.hid hrow
      clear hrow
      go_wp2_with (at_builtin; refine Stand.out ?_)
      have hml1 : 1 ≤ maxLen := by unfold maxLen; omega
      have hlo : LO.length + 1 ≤ n := by have h1 := HLL.out; have h2 := HM.out.2.2.2.2.2.1; omega
      refine Stand.mk (wpList_apps elItem rfl _ _ rfl w.heap.size u6 LO.length (its LO) rfl (HM.out.1.alloc _) (some ⟨wr.heap.size, 0, none⟩) 1 1 [.int .i64 y1, .int .i64 y2] rfl (Row.fresh wr 28 2 #[.int .i64 y1, .int .i64 y2] 1 rfl hml1) (its_one [(y1, y2)]) (by omega) (by unfold maxLen; omega) (by have := HM.out.2.2.2.2.2.2.size; simp; omega) ?_)
      intro A2 c2 w2 HO2 HG2 HL2
      obtain ⟨cs, hcs⟩ := HM.out.2.2.2.1
      have hb2 := blk_grown HG2.out (blk_ext ((Ext.refl wr).alloc _) hcs) HM.out.2.2.1
      have hrow2 : Row w2 2 (some ⟨b, o, none⟩) l q (its LL) := (HRW.out.alloc _).grownBy HG2.out (Ne.symm HM.out.2.2.1)
      have hx2 : Ext w w2 := (HM.out.2.2.2.2.2.2.alloc _).grown HG2.out fun g hg => (HM.out.1.lt g hg).1
      have hne2 : (Value.slice A2 (LO.length + 1) c2).ownBlock ≠ some b := by
        rcases HL2.out with h | h
        · rw [h]; exact HM.out.2.2.1
        · rw [h]; intro e; injection e with e; have := blk_lt hcs; simp at e; omega
      have ho2 : w2.ownsRow w.heap.size 28 2 (.slice A2 (LO.length + 1) c2) (LO ++ [(y1, y2)]).length (its (LO ++ [(y1, y2)])) := by
        rw [its_append, List.length_append]; exact HO2.out
      have hhd : Row w2 2 (some ⟨b, o, none⟩) a a (its (LL.take a)) := by
        have h := hrow2.head (k := a) (by omega)
        rw [its_take] at h
        exact ⟨h.1, Nat.le_refl _, Nat.le_trans (Nat.le_of_lt hal) hrow2.lim, h.2.2.2⟩
      have htl : Row w2 2 (if q = a + 1 then some ⟨b, o, none⟩ else (some ⟨b, o, none⟩ : Option Addr).map (·.add ((a + 1) * 2))) (l - (a + 1)) (q - (a + 1)) (its (LL.drop (a + 1))) := by
        have h := hrow2.tail (k := a + 1) (by omega)
        rw [its_drop] at h
        exact h
      have HB2 := Lib.hid hb2
      have HX2 := Lib.hid hx2
      have HN2 := Lib.hid hne2
      have HO3 := Lib.hid ho2
      have hPM : Hid (((LO ++ [(y1, y2)]) ++ (LL.take a ++ LL.drop (a + 1))).Perm xs) := perm_take_out HM.out.2.2.2.2.1 hyk.out
      have HLL2 : Hid ((LL.take a ++ LL.drop (a + 1)).length = a + (l - (a + 1))) := by rw [← HLL.out]; exact out_len (by rw [HLL.out]; exact hal)
      have hsum : a + (l - (a + 1)) + (LO.length + 1) = n := by have h1 := HLL.out; have h2 := HM.out.2.2.2.2.2.1; omega
      have HSU := Lib.hid hsum
      clear hb2 hx2 hne2 ho2 HO2 HG2 HL2 hcs hrow2 hsum hcx hd1 hd2 et ea1 ea2
      by_cases hq : q = a + 1
      · rw [if_pos hq] at htl
        obtain rfl : l = a + 1 := by omega
        subst hq
        rw [Nat.sub_self] at htl HLL2 HSU
        obtain ⟨A3, c3, w3, hrun, hr3, hx3, hor⟩ := run_app_tight (P := Try.prog) elItem w2.drew 23 (some ⟨b, o, none⟩) a _ (Row.drew hhd) _ _ _ _ (Row.drew htl) (by unfold maxLen; omega) (by omega) (.inr ⟨b, o, rfl⟩)
        obtain ⟨b3, o3, rfl⟩ : ∃ b3 o3, A3 = some ⟨b3, o3, none⟩ := by
          rcases hor with ⟨h, _⟩ | ⟨g, h, _⟩
          · exact ⟨b, o, h⟩
          · exact ⟨g, 0, h⟩
        have hM3 : MInv w w3 n xs (.slice A2 (LO.length + 1) c2) (LO ++ [(y1, y2)]) (LL.take a ++ LL.drop (a + 1)) b3 o3 c3 := by
          have hx23 : Ext w2 w3 := (Ext.refl w2).drew.trans hx3
          refine ⟨own_ext HO3.out hx23, ?_, ?_, ?_, hPM.out, ?_, HX2.out.trans hx23⟩
          · rw [HLL2.out, its_append]; exact hr3
          · rcases hor with ⟨h, _⟩ | ⟨g, h, h2, _⟩
            · injection h with h
              injection h with h h'
              rw [h]; exact HN2.out
            · injection h with h
              injection h with h h'
              rw [h]; intro e
              have h5 := (HO3.out.lt g e).2
              have h6 : w2.heap.size ≤ g := h2
              omega
          · rcases hor with ⟨h, _⟩ | ⟨g, h, _, k, h2⟩
            · injection h with h
              injection h with h h'
              rw [h]; exact ⟨_, blk_ext hx23 HB2.out⟩
            · injection h with h
              injection h with h h'
              rw [h]; exact ⟨_, h2⟩
          · rw [HLL2.out, List.length_append]; have := HSU.out; simp only [List.length_singleton]; omega
        have HM3 := Lib.hid hM3
        have HRUN := Lib.hid hrun
        clear hM3 hrun hr3 hx3 hor htl hhd
        have sw : IntKind.i64.wrap ((a : Int) + 1) = (a : Int) + 1 := IntWalk.i64_in _ (by omega)
        have sn : (0 : Int) ≤ (a : Int) + 1 := by omega
        have sl : (a : Int) + 1 ≤ (a : Int) + 1 := by omega
        have sa1 : (a : Int) ≤ (a : Int) + 1 := by omega
        have st : ((a : Int) + 1).toNat = a + 1 := by omega
        have sa : a ≤ a + 1 := by omega
        go_wp2
        go_region_held3 (fun _ => True) (exact trivial) ((refine step_append_run (w := w2.drew) rfl (.tmp 43) (.tmp 47) #[23, 23] rfl (.slice (some ⟨b, o, none⟩) a a) (.slice (some ⟨b, o, none⟩) 0 0) rfl rfl (.slice (some ⟨b3, o3, none⟩) (a + 0) c3) w3 HRUN.out ?_))
        clear sw sn sl sa1 st sa
        go_wp2
        go_roundg (gk - 1)
        case measure => omega
        case rel => exact ⟨k + 1, b3, o3, c3, _, _, _, by omega, by go_num, rfl, HLL2.out, HM3.out⟩
      · rw [if_neg hq] at htl
        simp only [Option.map_some, add_zero_off] at htl
        obtain ⟨A3, c3, w3, hrun, hr3, hx3, hor⟩ := run_app_tight (P := Try.prog) elItem w2.drew 23 (some ⟨b, o, none⟩) a _ (Row.drew hhd) _ _ _ _ (Row.drew htl) (by unfold maxLen; omega) (by omega) (.inr ⟨b, o, rfl⟩)
        obtain ⟨b3, o3, rfl⟩ : ∃ b3 o3, A3 = some ⟨b3, o3, none⟩ := by
          rcases hor with ⟨h, _⟩ | ⟨g, h, _⟩
          · exact ⟨b, o, h⟩
          · exact ⟨g, 0, h⟩
        have hM3 : MInv w w3 n xs (.slice A2 (LO.length + 1) c2) (LO ++ [(y1, y2)]) (LL.take a ++ LL.drop (a + 1)) b3 o3 c3 := by
          have hx23 : Ext w2 w3 := (Ext.refl w2).drew.trans hx3
          refine ⟨own_ext HO3.out hx23, ?_, ?_, ?_, hPM.out, ?_, HX2.out.trans hx23⟩
          · rw [HLL2.out, its_append]; exact hr3
          · rcases hor with ⟨h, _⟩ | ⟨g, h, h2, _⟩
            · injection h with h
              injection h with h h'
              rw [h]; exact HN2.out
            · injection h with h
              injection h with h h'
              rw [h]; intro e
              have h5 := (HO3.out.lt g e).2
              have h6 : w2.heap.size ≤ g := h2
              omega
          · rcases hor with ⟨h, _⟩ | ⟨g, h, _, k, h2⟩
            · injection h with h
              injection h with h h'
              rw [h]; exact ⟨_, blk_ext hx23 HB2.out⟩
            · injection h with h
              injection h with h h'
              rw [h]; exact ⟨_, h2⟩
          · rw [HLL2.out, List.length_append]; have := HSU.out; simp only [List.length_singleton]; omega
        have HM3 := Lib.hid hM3
        have HRUN := Lib.hid hrun
        clear hM3 hrun hr3 hx3 hor htl hhd
        have sw : IntKind.i64.wrap ((a : Int) + 1) = (a : Int) + 1 := IntWalk.i64_in _ (by omega)
        have sn : (0 : Int) ≤ (a : Int) + 1 := by omega
        have sl : (a : Int) + 1 ≤ (l : Int) := by omega
        have st : ((a : Int) + 1).toNat = a + 1 := by omega
        have sa : (a : Int) ≤ (q : Int) := by omega
        have sq : a ≤ q := by omega
        have sal : a ≤ l := by omega
        go_wp2
        go_region_held3 (fun _ => True) (exact trivial) ((refine step_append_run (w := w2.drew) rfl (.tmp 43) (.tmp 47) #[23, 23] rfl (.slice (some ⟨b, o, none⟩) a a) (.slice (some ⟨b, o + (a + 1) * 2, none⟩) (l - (a + 1)) (q - (a + 1))) rfl rfl (.slice (some ⟨b3, o3, none⟩) (a + (l - (a + 1))) c3) w3 HRUN.out ?_))
        clear sw sn sl st sa sq sal
        go_wp2
        go_roundg (gk - 1)
        case measure => omega
        case rel => exact ⟨k + 1, b3, o3, c3, _, _, _, by omega, by go_num, rfl, HLL2.out, HM3.out⟩
    · have hrow : Row wr 2 (some ⟨b, o, none⟩) l q (its LL) := by rw [← HLL.out]; exact HM.out.2.1
      have hlo : LO.length + l ≤ n := by have h1 := HLL.out; have h2 := HM.out.2.2.2.2.2.1; omega
      have HRW := Lib.hid hrow
      clear hrow
      by_cases hkm : k < m
      · obtain rfl : l = 0 := by omega
        obtain ⟨b5, o5, x, rfl, hxk, hcx⟩ := (HO.out.ext HM.out.2.2.2.2.2.2).int_at (k := k) hkm
        clear hgo
        go_wp2_with (at_builtin; refine Stand.out ?_)
        refine Stand.mk (wpList_apps elItem rfl _ _ rfl w.heap.size u6 LO.length (its LO) rfl HM.out.1 (some ⟨b, o, none⟩) 0 q (its LL) rfl HRW.out (its_one _) (by omega) (by unfold maxLen; omega) HM.out.2.2.2.2.2.2.size ?_)
        intro A2 c2 w2 HO2 HG2 HL2
        have hx2 : Ext w w2 := HM.out.2.2.2.2.2.2.grown HG2.out fun g hg => (HM.out.1.lt g hg).1
        have HX2 := Lib.hid hx2
        clear hx2
        go_wp2
        have ho := Row.own HO2.out
        have hn : LO.length + 0 = n := by have h1 := HLL.out; have h2 := HM.out.2.2.2.2.2.1; omega
        rw [hn, ← its_append] at ho
        exact bodyPost_ret (v := .slice A2 (LO.length + 0) c2) (by simp [results, Try.results13, go_sem]) rfl ⟨A2, c2, LO ++ LL, by rw [hn], ho, HM.out.2.2.2.2.1, HX2.out⟩
      · obtain rfl : k = m := by omega
        clear hgo
        go_wp2_with (at_builtin; refine Stand.out ?_)
        refine Stand.mk (wpList_apps elItem rfl _ _ rfl w.heap.size u6 LO.length (its LO) rfl HM.out.1 (some ⟨b, o, none⟩) l q (its LL) rfl HRW.out (its_one _) (by omega) (by unfold maxLen; omega) HM.out.2.2.2.2.2.2.size ?_)
        intro A2 c2 w2 HO2 HG2 HL2
        have hx2 : Ext w w2 := HM.out.2.2.2.2.2.2.grown HG2.out fun g hg => (HM.out.1.lt g hg).1
        have HX2 := Lib.hid hx2
        clear hx2
        go_wp2
        have ho := Row.own HO2.out
        have hn : LO.length + l = n := by have h1 := HLL.out; have h2 := HM.out.2.2.2.2.2.1; omega
        rw [hn, ← its_append] at ho
        exact bodyPost_ret (v := .slice A2 (LO.length + l) c2) (by simp [results, Try.results13, go_sem]) rfl ⟨A2, c2, LO ++ LL, by rw [hn], ho, HM.out.2.2.2.2.1, HX2.out⟩
end Go.Proofs.Ytefeedpeiiaanaa
