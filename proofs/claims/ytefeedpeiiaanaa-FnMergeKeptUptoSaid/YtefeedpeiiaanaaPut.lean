/- The contracts of impl.put and impl.take: an item is put into a list in order, or taken out of it. No statement of the seat is proved here. -/
import Derived.Test.YtefeedpeiiaanaaBsearch
import Derived.Test.YtefeedpeiiaanaaDeleteItem
namespace Go.Proofs.Ytefeedpeiiaanaa
open Go.RowKit

theorem EditedItem.from {w w1 : World} {base n : Nat} {v : Value} {xs : List Value} {e : Ending} {w' : World} (hx : Ext w w1) (h : EditedItem w1 base v n xs e w') : EditedItem w base v n xs e w' := by
  obtain ⟨v', he, ho, hg, hl⟩ := h
  refine ⟨v', he, ho, grown_trans (grown_of_ext hx _) hg, ?_⟩
  rcases hl with h | ⟨g, h1, h2⟩
  · exact .inl h
  · exact .inr ⟨g, h1, Nat.le_trans hx.size h2⟩

theorem put_plain {S : List (Int × Int)} {x : Int × Int} {n i : Nat} {is : Bool} (ho : Ord S) (h : PFound S x n i is) : S.take i ++ [x] ++ S.drop i = insP x S := by
  symm
  have hx : ∀ t y, t < i → S[t]? = some y → leP y x = true := fun t y ht hy => by
    rcases leP_total y x with h1 | h1
    · exact h1
    · rw [h.2.1 t y ht hy] at h1; cases h1
  refine insP_of_ord ho ?_ ?_
  · unfold Ord
    rw [List.append_assoc, List.pairwise_append]
    refine ⟨List.Pairwise.sublist (List.take_sublist _ _) ho, ?_, ?_⟩
    · rw [List.singleton_append, List.pairwise_cons]
      refine ⟨fun a ha => ?_, List.Pairwise.sublist (List.drop_sublist _ _) ho⟩
      obtain ⟨t, ht⟩ := List.mem_iff_getElem?.1 ha
      rw [List.getElem?_drop] at ht
      exact h.2.2.1 _ a (by omega) ht
    · intro a ha b hb
      obtain ⟨t, ht⟩ := List.mem_iff_getElem?.1 ha
      rw [List.getElem?_take] at ht
      split at ht
      · rename_i hti
        have hax := hx t a hti ht
        rw [List.singleton_append] at hb
        rcases List.mem_cons.1 hb with rfl | hm
        · exact hax
        · obtain ⟨s, hs⟩ := List.mem_iff_getElem?.1 hm
          rw [List.getElem?_drop] at hs
          exact leP_trans hax (h.2.2.1 _ b (by omega) hs)
      · cases ht
  · rw [List.append_assoc, List.singleton_append]
    refine (List.perm_middle).trans ?_
    rw [List.take_append_drop]
theorem its_ins (S : List (Int × Int)) (x : Int × Int) (i : Nat) : (its S).take (i * 2) ++ its [x] ++ (its S).drop (i * 2) = its (S.take i ++ [x] ++ S.drop i) := by
  rw [its_take, its_drop, its_append, its_append]

set_option maxHeartbeats 800000 in
theorem put_ok (w : World) (base : Nat) (v : Value) (n : Nat) (S : List (Int × Int)) (x : Int × Int) (hown : w.ownsRow base 28 2 v n (its S)) (ho : Ord S) (hs : n ≤ 1099511620000) (hbase : base ≤ w.heap.size) :
    Calls Try.prog 24 #[v, .agg #[.int .i64 x.1, .int .i64 x.2]] w (EditedItem w base v (n + 1) (its (insP x S))) := by
  obtain ⟨A, c, rfl, hrow⟩ := own_form hown
  have HOWN := Lib.hid hown
  have HO := Lib.hid ho
  have HR := Lib.hid hrow
  clear hown ho hrow
  obtain ⟨Z, hz⟩ : ∃ Z, Z = insP x S := ⟨_, rfl⟩
  rw [← hz]
  have HZ := Lib.hid hz
  clear hz
  have HBS := Lib.hid (fun w => bsearchP_ok A n c S x w)
  obtain ⟨x1, x2⟩ := x
  simp only at HBS
  simp only
  go_enter Try.func24, Try.ntmps24
  go_wp2_with fail
  refine (HBS.out _ (HR.out.alloc _) HO.out (by omega)).mono ?_
  rintro e w1 ⟨i, is, rfl, HF, HE1⟩
  have c0 : w1.cell? ⟨w.heap.size, 0, none⟩ = some (.int .i64 x1) := HE1.out.cell_some (by go_simp)
  have c1 : w1.cell? ⟨w.heap.size, 1, none⟩ = some (.int .i64 x2) := HE1.out.cell_some (by go_simp)
  have hil := HF.out.1
  have HE2 : Hid (Ext w w1) := ((Ext.refl w).alloc _).trans HE1.out
  go_wp2_with fail
  have hval : (w1.alloc (.cells #[.int .i64 x1, .int .i64 x2] 28)).ownsRow 0 28 2 (.slice (some ⟨w1.heap.size, 0, none⟩) 1 1) 1 (its [(x1, x2)]) :=
    World.ownsRow_lit w1 #[.int .i64 x1, .int .i64 x2] 1 (Nat.zero_le _) (by unfold maxLen; omega) rfl
  refine (insertItem_ok (w1.alloc (.cells #[.int .i64 x1, .int .i64 x2] 28)) base (.slice A n c) n (its S) i (some ⟨w1.heap.size, 0, none⟩) 1 1 (its [(x1, x2)]) ((own_ext HOWN.out HE2.out).alloc _) hval (its_one _) (its_one _) hil (by omega) (by omega) ?_ ?_).mono ?_
  · intro g hg h
    have := (HOWN.out.lt g h).2
    have h2 := HE2.out.size
    simp [Value.ownBlock] at hg
    omega
  · have h2 := HE2.out.size
    simp
    omega
  · intro e w2 hed
    rw [its_ins, put_plain HO.out HF.out, ← HZ.out] at hed
    obtain ⟨v', rfl, h1, h2, h3⟩ := (EditedItem.from (HE2.out.alloc _) hed)
    have HH := Lib.hid (⟨v', rfl, h1, h2, h3⟩ : EditedItem w base (.slice A n c) (n + 1) (its Z) (.returned v') w2)
    clear h1 h2 h3 hed
    go_wp2
    go_ret
    exact HH.out

theorem take_is {S : List (Int × Int)} {x : Int × Int} {n i : Nat} {is : Bool} (ho : Ord S) (h : PFound S x n i is) (hm : x ∈ S) : is = true ∧ S[i]? = some x := by
  have e : S[i]? = some x := by
    obtain ⟨t, ht⟩ := List.mem_iff_getElem?.1 hm
    have hit : i ≤ t := by
      rcases Nat.lt_or_ge t i with h1 | h1
      · have := h.2.1 t x h1 ht
        rw [leP_refl] at this
        cases this
      · exact h1
    rcases Nat.eq_or_lt_of_le hit with h1 | h1
    · subst h1; exact ht
    · obtain ⟨h3, _⟩ := List.getElem?_eq_some_iff.1 ht
      have hx : S[i]? = some S[i] := List.getElem?_eq_getElem (by omega)
      have h4 := h.2.2.1 i _ (Nat.le_refl _) hx
      rw [hx, leP_anti (ord_at ho h1 hx ht) h4]
  exact ⟨h.2.2.2.2 e, e⟩
theorem take_plain {S : List (Int × Int)} {x : Int × Int} {i : Nat} (ho : Ord S) (e : S[i]? = some x) : S.take i ++ S.drop (i + 1) = S.erase x := by
  obtain ⟨h3, h4⟩ := List.getElem?_eq_some_iff.1 e
  have hs : S = S.take i ++ x :: S.drop (i + 1) := by rw [← h4, ← List.drop_eq_getElem_cons h3, List.take_append_drop]
  have hsub : (S.take i ++ S.drop (i + 1)).Sublist S := by
    conv => rhs; rw [hs]
    exact List.Sublist.append (List.Sublist.refl _) (List.sublist_cons_self _ _)
  refine ord_perm_eq (List.Pairwise.sublist hsub ho) (List.Pairwise.sublist List.erase_sublist ho) ?_
  have hp : S.Perm (x :: (S.take i ++ S.drop (i + 1))) := by
    conv => lhs; rw [hs]
    exact List.perm_middle
  exact List.Perm.cons_inv (hp.symm.trans (List.perm_cons_erase (List.mem_of_getElem? e)))
theorem its_del (S : List (Int × Int)) (i j : Nat) : (its S).take (i * 2) ++ (its S).drop (j * 2) = its (S.take i ++ S.drop j) := by
  rw [its_take, its_drop, its_append]

set_option maxHeartbeats 800000 in
theorem take_in (w : World) (base : Nat) (v : Value) (n : Nat) (S : List (Int × Int)) (x : Int × Int) (hown : w.ownsRow base 28 2 v n (its S)) (ho : Ord S) (hs : n ≤ 1099511620000) (hm : x ∈ S) :
    Calls Try.prog 38 #[v, .agg #[.int .i64 x.1, .int .i64 x.2]] w fun e w' => ∃ v', e = .returned (.tuple #[v', .bool true]) ∧ EditedItem w base v (n - 1) (its (S.erase x)) (.returned v') w' := by
  obtain ⟨A, c, rfl, hrow⟩ := own_form hown
  have HOWN := Lib.hid hown
  have HO := Lib.hid ho
  have HR := Lib.hid hrow
  have HL := Lib.hid hrow.its_len
  have HM := Lib.hid hm
  clear hown ho hrow hm
  obtain ⟨Z, hz⟩ : ∃ Z, Z = S.erase x := ⟨_, rfl⟩
  rw [← hz]
  have HZ := Lib.hid hz
  clear hz
  have HBS := Lib.hid (fun w => bsearchP_ok A n c S x w)
  obtain ⟨x1, x2⟩ := x
  simp only at HBS
  simp only
  go_enter Try.func38, Try.ntmps38
  go_wp2_with fail
  refine (HBS.out _ (HR.out.alloc _) HO.out (by omega)).mono ?_
  rintro e w1 ⟨i, is, rfl, HF, HE1⟩
  obtain ⟨rfl, hsi⟩ := take_is HO.out HF.out HM.out
  have hin : i < n := by
    obtain ⟨h3, _⟩ := List.getElem?_eq_some_iff.1 hsi
    have := HL.out
    omega
  have HSI := Lib.hid hsi
  clear hsi
  have HE2 : Hid (Ext w w1) := ((Ext.refl w).alloc _).trans HE1.out
  go_wp2_with fail
  have hdel := deleteItem_ok w1 base (.slice A n c) n (its S) i (i + 1) (own_ext HOWN.out HE2.out) (its_one _) (by omega) (by omega) (by omega)
  rw [its_del, take_plain HO.out HSI.out, ← HZ.out, show i + (n - (i + 1)) = n - 1 by omega, show ((i + 1 : Nat) : Int) = (i : Int) + 1 by omega] at hdel
  refine hdel.mono ?_
  intro e w2 hed
  obtain ⟨v', rfl, h1, h2, h3⟩ := EditedItem.from HE2.out hed
  have HH := Lib.hid (⟨v', rfl, h1, h2, h3⟩ : EditedItem w base (.slice A n c) (n - 1) (its Z) (.returned v') w2)
  clear h1 h2 h3 hed hdel
  go_wp2
  go_ret2
  exact ⟨v', rfl, HH.out⟩

set_option maxHeartbeats 800000 in
theorem take_out (w : World) (base : Nat) (v : Value) (n : Nat) (S : List (Int × Int)) (x : Int × Int) (hown : w.ownsRow base 28 2 v n (its S)) (ho : Ord S) (hs : n ≤ 1099511620000) (hm : x ∉ S) :
    Calls Try.prog 38 #[v, .agg #[.int .i64 x.1, .int .i64 x.2]] w fun e w' => e = .returned (.tuple #[v, .bool false]) ∧ Ext w w' := by
  obtain ⟨A, c, rfl, hrow⟩ := own_form hown
  have HO := Lib.hid ho
  have HR := Lib.hid hrow
  have HM := Lib.hid hm
  clear hown ho hrow hm
  have HBS := Lib.hid (fun w => bsearchP_ok A n c S x w)
  obtain ⟨x1, x2⟩ := x
  simp only at HBS
  simp only
  go_enter Try.func38, Try.ntmps38
  go_wp2_with fail
  refine (HBS.out _ (HR.out.alloc _) HO.out (by omega)).mono ?_
  rintro e w1 ⟨i, is, rfl, HF, HE1⟩
  have his : is = false := by
    cases is with
    | false => rfl
    | true => exact absurd (List.mem_of_getElem? (HF.out.2.2.2.1 rfl)) HM.out
  subst his
  have HE2 : Hid (Ext w w1) := ((Ext.refl w).alloc _).trans HE1.out
  go_wp2
  go_ret2
  exact ⟨rfl, HE2.out⟩
end Go.Proofs.Ytefeedpeiiaanaa
