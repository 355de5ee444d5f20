/- The walk of laws.FnSearchCut. No statement of the seat is proved here. -/
import Derived.Test.YtjmbdaofnnmldaaSearch
import Derived.Test.YtjmbdaofnnmldaaSortedIts
import Derived.Test.YtjmbdaofnnmldaaWords2
import Derived.Test.YtjmbdaofnnmldaaFacts
namespace Go.Proofs.Ytjmbdaofnnmldaa
open Go.RowKit

theorem bool_iff {a b : Bool} (h : a = true ↔ b = true) : a = b := by cases a <;> cases b <;> simp_all
/-- There is one place alone. -/
theorem found_one {S : List (Int × Int)} {key : Int} {n i j : Nat} (hl : S.length = n) (hi : i ≤ n) (hj : j ≤ n) (h1 : ∀ t x, t < i → S[t]? = some x → x.1 < key) (h2 : ∀ t x, i ≤ t → S[t]? = some x → key ≤ x.1)
    (k1 : ∀ t x, t < j → S[t]? = some x → x.1 < key) (k2 : ∀ t x, j ≤ t → S[t]? = some x → key ≤ x.1) : i = j := by
  rcases Nat.lt_trichotomy i j with h | h | h
  · have hx : S[i]? = some S[i] := List.getElem?_eq_getElem (by omega)
    have := k1 i _ h hx
    have := h2 i _ (Nat.le_refl _) hx
    omega
  · exact h
  · have hx : S[j]? = some S[j] := List.getElem?_eq_getElem (by omega)
    have := h1 j _ h hx
    have := k2 j _ (Nat.le_refl _) hx
    omega
theorem cut_first {S : List (Int × Int)} {key : Int} {n k i j ki kj : Nat} {a b : Bool} (hl : S.length = n) (hk : k ≤ n) (ho : Ord S) (hi : SFound S key n i a ki) (hj : SFound (S.take k) key k j b kj) (hjk : j < k) : i = j ∧ a = b := by
  have hx : S[j]? = some S[j] := List.getElem?_eq_getElem (by omega)
  have hxt : (S.take k)[j]? = some S[j] := by rw [List.getElem?_take_of_lt hjk]; exact hx
  have e : i = j := by
    refine found_one hl hi.1 (by omega) hi.2.1 hi.2.2.1 (fun t x ht hx => hj.2.1 t x ht (by rw [List.getElem?_take_of_lt (by omega)]; exact hx)) (fun t x ht hxx => ?_)
    have hkey := hj.2.2.1 j _ (Nat.le_refl _) hxt
    rcases Nat.eq_or_lt_of_le ht with h | h
    · subst h
      rw [hx] at hxx
      injection hxx with hxx
      rw [← hxx]
      exact hkey
    · obtain ⟨h3, e3⟩ := List.getElem?_eq_some_iff.1 hxx
      have hle := List.pairwise_iff_getElem.1 ho j t (by omega) h3 h
      rw [e3, leP_iff] at hle
      omega
  subst e
  refine ⟨rfl, bool_iff ?_⟩
  rw [hi.2.2.2.1, hj.2.2.2.1, List.getElem?_take_of_lt hjk]
theorem cut_second {S : List (Int × Int)} {key : Int} {n k i j l ki kj kl : Nat} {a b c : Bool} (hl : S.length = n) (hk : k ≤ n) (hi : SFound S key n i a ki) (hj : SFound (S.take k) key k j b kj) (hc : SFound (S.drop k) key (n - k) l c kl) (hjk : ¬ j < k) :
    j = k ∧ b = false ∧ i = k + l ∧ a = c := by
  obtain rfl : j = k := by have := hj.1; omega
  have hb : b = false := by
    cases b with
    | false => rfl
    | true => obtain ⟨x, hx, _⟩ := hj.2.2.2.1.1 rfl; rw [List.getElem?_take] at hx; simp at hx
  have hcl := hc.1
  have e : i = j + l := by
    refine found_one hl hi.1 (by omega) hi.2.1 hi.2.2.1 (fun t x ht hx => ?_) (fun t x ht hx => ?_)
    · rcases Nat.lt_or_ge t j with h | h
      · exact hj.2.1 t x h (by rw [List.getElem?_take_of_lt h]; exact hx)
      · exact hc.2.1 (t - j) x (by omega) (by rw [List.getElem?_drop, show j + (t - j) = t by omega]; exact hx)
    · exact hc.2.2.1 (t - j) x (by omega) (by rw [List.getElem?_drop, show j + (t - j) = t by omega]; exact hx)
  subst e
  refine ⟨rfl, hb, rfl, bool_iff ?_⟩
  rw [hi.2.2.2.1, hc.2.2.2.1, List.getElem?_drop]

def FoundV (S : List (Int × Int)) (key : Int) (n : Nat) : Value → World → Prop := fun v _ => ∃ (i : Nat) (is : Bool) (k : Nat) (B : Option Addr) (q : Nat), v = .agg #[.int .i64 i, .bool is, .slice B k q] ∧ SFound S key n i is k
theorem FoundV.last (S : List (Int × Int)) (key : Int) (n : Nat) : Lasts (FoundV S key n) := fun _ _ _ h _ => h
theorem slice_if {c k m q : Nat} {A B : Option Addr} (h : c = k) : Value.slice A m q = Value.slice (if c = k then A else B) m q := by rw [if_pos h]
theorem slice_if' {c k m q : Nat} {A B : Option Addr} (h : ¬ c = k) : Value.slice B m q = Value.slice (if c = k then A else B) m q := by rw [if_neg h]
/-- A pointer to a new block that is known whole. -/
def PtrNew (N : Nat) (t : TypeId) (cs : Array Value) : Value → World → Prop := fun v w => ∃ g : Nat, v = .pointer (some ⟨g, 0, none⟩) ∧ w.heap[g]? = some (.cells cs t (0, 0)) ∧ N ≤ g
theorem PtrNew.last (N : Nat) (t : TypeId) (cs : Array Value) : Lasts (PtrNew N t cs) := fun _ _ _ ⟨g, h, k, m⟩ hx => ⟨g, h, blk_ext hx k, m⟩
def F3 (v : Value) (wx : World) (i : Nat) (is : Bool) (k : Nat) (B : Option Addr) (q : Nat) : Prop := ∃ g : Nat, v = .pointer (some ⟨g, 0, none⟩) ∧ wx.cell? ⟨g, 0, none⟩ = some (.int .i64 i) ∧ wx.cell? ⟨g, 1, none⟩ = some (.bool is) ∧ wx.cell? ⟨g, 2, none⟩ = some (.slice B k q)

set_option maxRecDepth 100000 in
set_option maxHeartbeats 6000000 in
theorem fnSearchCut_ok (A : Option Addr) (n c : Nat) (xs : List Int) (k key : Int) (w : World) (hx : Row w 1 A n c (ints xs)) (hs : n ≤ 1073741824) :
    Calls Try.prog 5 #[.slice A n c, .int .i64 k, .int .i64 key] w fun e w' => e = .returned (.bool true) ∧ Ext w w' := by
  have HX := Lib.hid hx
  clear hx
  go_enter Try.func5, Try.ntmps5
  go_wp2_with fail
  refine (items_ok _ _ _ _ _ _ _ _ _ HX.out HX.out (by omega)).mono ?_
  rw [Nat.min_self]
  rintro e w1 ⟨C1, k1, rfl, hr1, he1⟩
  have HR1 := Lib.hid hr1
  have HE1 := Lib.hid he1
  clear hr1 he1
  go_wp2_with fail
  refine (sorted_ok _ _ _ _ _ HR1.out (by omega)).mono ?_
  rintro e w2 ⟨C2, k2, rfl, hr2, he2⟩
  have HO := Lib.hid (sortP_ord (xs.zip xs))
  generalize sortP (xs.zip xs) = S at hr2 HO
  have HR2 := Lib.hid hr2
  have HE2 := Lib.hid (HE1.out.trans he2)
  have HL := Lib.hid hr2.its_len
  have hcap := hr2.cap
  have hnc := hr2.le
  unfold maxLen at hcap
  clear hr2 he2
  by_cases hk0 : k < 0
  · have hd : decide (k < 0) = true := by simpa using hk0
    go_wp2
    go_ret
    exact ⟨rfl, HE2.out⟩
  · have hd : decide (k < 0) = false := by simpa using hk0
    obtain ⟨k, rfl⟩ := Int.eq_ofNat_of_zero_le (by omega : 0 ≤ k)
    by_cases hkn : n < k
    · go_wp2
      go_ret
      exact ⟨rfl, HE2.out⟩
    · have hkc : k ≤ k2 := by omega
      have HOH : Hid (Ord (S.take k)) := Lib.hid (List.Pairwise.sublist (List.take_sublist _ _) HO.out)
      have HOT : Hid (Ord (S.drop k)) := Lib.hid (List.Pairwise.sublist (List.drop_sublist _ _) HO.out)
      have hkn2 : k ≤ n := by omega
      have hks : k ≤ 1073741824 := by omega
      have hks2 : n - k ≤ 1073741824 := by omega
      have HRH : Hid (Row w2 2 C2 k k2 (its (S.take k))) := Lib.hid (by rw [← its_take]; exact HR2.out.head hkn2)
      obtain ⟨AT, hAT⟩ : ∃ AT, AT = if k2 = k then C2 else C2.map (·.add (k * 2)) := ⟨_, rfl⟩
      have HAT : Hid ((¬ k2 = k ∧ AT = C2.map (·.add (k * 2))) ∨ (k2 = k ∧ AT = C2)) := by
        by_cases h : k2 = k
        · exact .inr ⟨h, by rw [hAT, if_pos h]⟩
        · exact .inl ⟨h, by rw [hAT, if_neg h]⟩
      have HRT : Hid (Row w2 2 AT (n - k) (k2 - k) (its (S.drop k))) := Lib.hid (by rw [hAT, ← its_drop]; exact HR2.out.tail hkn2)
      clear hAT
      go_upto_region 4 with (fail)
      go_cut [8, 9, 10] (fun s8 s9 s10 wx => ∃ iA isA kA BA qA iB isB kB BB qB iC isC kC BC qC, F3 s8 wx iA isA kA BA qA ∧ F3 s9 wx iB isB kB BB qB ∧ F3 s10 wx iC isC kC BC qC ∧ Hid (SFound S key n iA isA kA) ∧ Hid (SFound (S.take k) key k iB isB kB) ∧ Hid (SFound (S.drop k) key (n - k) iC isC kC) ∧ Hid (Ext w2 wx))
      case first =>
        refine wp_region_ext 16 [Is (.slice C2 n k2), Is (.int .i64 key), FoundV S key n, Is (.slice C2 n k2), Is (.int .i64 (k : Int)), Is (.slice C2 k k2), Is (.int .i64 key), FoundV (S.take k) key k, Is (.slice C2 n k2), Is (.int .i64 (k : Int)), Is (.slice AT (n - k) (k2 - k)), Is (.int .i64 key), FoundV (S.drop k) key (n - k), PtrNew w2.heap.size 27 #[.int .i64 0, .bool false, .slice none 0 0], PtrNew w2.heap.size 27 #[.int .i64 0, .bool false, .slice none 0 0], PtrNew w2.heap.size 27 #[.int .i64 0, .bool false, .slice none 0 0]] [13, 14, 15] (by kernel_rfl) (by kernel_rfl) (by kernel_rfl) ⟨Is.last _, Is.last _, FoundV.last _ _ _, Is.last _, Is.last _, Is.last _, Is.last _, FoundV.last _ _ _, Is.last _, Is.last _, Is.last _, Is.last _, FoundV.last _ _ _, PtrNew.last _ _ _, PtrNew.last _ _ _, PtrNew.last _ _ _, trivial⟩ ?_
        simp only [List.take_succ_cons, List.take_zero, List.drop_succ_cons, List.drop_zero]
        refine lex_val 23 rfl (by simp) rfl rfl (fun w => Ext.refl w) (fun wx _ _ => ⟨_, rfl, rfl⟩) (fun v0 => ?_)
        refine lex_val 24 rfl (by simp [put_size]) rfl rfl (fun w => Ext.refl w) (fun wx _ _ => ⟨_, rfl, rfl⟩) (fun v1 => ?_)
        try simp only [Act.put, List.setIfInBounds_toArray, List.set_cons_succ, List.set_cons_zero]
        refine lex_one (fun wx hC hd J HJ => ?_) (fun K hK v2 => ?_)
        · obtain ⟨rfl, rfl, -⟩ := hd
          go_wp2_with fail
          refine (search_ok C2 n k2 S key _ (HR2.out.ext hC) HO.out hs).mono ?_
          rintro e w' ⟨i, is, kk, B, q, rfl, hf, hx⟩
          go_wp2
          exact HJ.out _ _ <| opPost_mk rfl hx trivial ⟨i, is, kk, B, q, rfl, hf⟩
        simp only [Act.put, List.setIfInBounds_toArray, List.set_cons_succ, List.set_cons_zero]
        refine hK _ _ ?_
        clear hK K
        refine lex_val 26 rfl (by simp) rfl rfl (fun w => Ext.refl w) (fun wx _ _ => ⟨_, rfl, rfl⟩) (fun v3 => ?_)
        refine lex_val 27 rfl (by simp [put_size]) rfl rfl (fun w => Ext.refl w) (fun wx _ _ => ⟨_, rfl, rfl⟩) (fun v4 => ?_)
        try simp only [Act.put, List.setIfInBounds_toArray, List.set_cons_succ, List.set_cons_zero]
        refine lex_one (fun wx hC hd J HJ => ?_) (fun K hK v5 => ?_)
        · obtain ⟨rfl, rfl, -⟩ := hd
          go_wp2
          exact HJ.out _ _ <| opPost_mk rfl (Ext.refl _) trivial rfl
        simp only [Act.put, List.setIfInBounds_toArray, List.set_cons_succ, List.set_cons_zero]
        refine hK _ _ ?_
        clear hK K
        refine lex_val 29 rfl (by simp) rfl rfl (fun w => Ext.refl w) (fun wx _ _ => ⟨_, rfl, rfl⟩) (fun v6 => ?_)
        try simp only [Act.put, List.setIfInBounds_toArray, List.set_cons_succ, List.set_cons_zero]
        refine lex_one (fun wx hC hd J HJ => ?_) (fun K hK v7 => ?_)
        · obtain ⟨rfl, rfl, -⟩ := hd
          go_wp2_with fail
          refine (search_ok C2 k k2 (S.take k) key _ (HRH.out.ext hC) HOH.out hks).mono ?_
          rintro e w' ⟨i, is, kk, B, q, rfl, hf, hx⟩
          go_wp2
          exact HJ.out _ _ <| opPost_mk rfl hx trivial ⟨i, is, kk, B, q, rfl, hf⟩
        simp only [Act.put, List.setIfInBounds_toArray, List.set_cons_succ, List.set_cons_zero]
        refine hK _ _ ?_
        clear hK K
        refine lex_val 31 rfl (by simp) rfl rfl (fun w => Ext.refl w) (fun wx _ _ => ⟨_, rfl, rfl⟩) (fun v8 => ?_)
        refine lex_val 32 rfl (by simp [put_size]) rfl rfl (fun w => Ext.refl w) (fun wx _ _ => ⟨_, rfl, rfl⟩) (fun v9 => ?_)
        try simp only [Act.put, List.setIfInBounds_toArray, List.set_cons_succ, List.set_cons_zero]
        refine lex_one (fun wx hC hd J HJ => ?_) (fun K hK v10 => ?_)
        · obtain ⟨rfl, rfl, -⟩ := hd
          rcases HAT.out with ⟨hkk, hat⟩ | ⟨hkk, hat⟩
          · subst hat
            go_wp2
            exact HJ.out _ _ <| opPost_mk rfl (Ext.refl _) trivial rfl
          · have HQ := Lib.hid hat
            clear hat
            go_wp2
            refine HJ.out _ _ <| opPost_mk rfl (Ext.refl _) trivial ?_
            show Value.slice _ _ _ = Value.slice _ _ _
            rw [HQ.out, hkk]
            simp
        simp only [Act.put, List.setIfInBounds_toArray, List.set_cons_succ, List.set_cons_zero]
        refine hK _ _ ?_
        clear hK K
        refine lex_val 34 rfl (by simp) rfl rfl (fun w => Ext.refl w) (fun wx _ _ => ⟨_, rfl, rfl⟩) (fun v11 => ?_)
        try simp only [Act.put, List.setIfInBounds_toArray, List.set_cons_succ, List.set_cons_zero]
        refine lex_one (fun wx hC hd J HJ => ?_) (fun K hK v12 => ?_)
        · obtain ⟨rfl, rfl, -⟩ := hd
          go_wp2_with fail
          refine (search_ok AT (n - k) (k2 - k) (S.drop k) key _ (HRT.out.ext hC) HOT.out hks2).mono ?_
          rintro e w' ⟨i, is, kk, B, q, rfl, hf, hx⟩
          go_wp2
          exact HJ.out _ _ <| opPost_mk rfl hx trivial ⟨i, is, kk, B, q, rfl, hf⟩
        simp only [Act.put, List.setIfInBounds_toArray, List.set_cons_succ, List.set_cons_zero]
        refine hK _ _ ?_
        clear hK K
        try simp only [Act.put, List.setIfInBounds_toArray, List.set_cons_succ, List.set_cons_zero]
        refine lex_one (fun wx hC hd J HJ => ?_) (fun K hK v13 => ?_)
        · obtain - := hd
          go_wp2
          exact HJ.out _ _ <| opPost_mk rfl ((Ext.refl _).alloc _) ⟨_, rfl, Nat.le_refl _, by simp⟩ ⟨_, rfl, heap_alloc_new _ _, hC.size⟩
        simp only [Act.put, List.setIfInBounds_toArray, List.set_cons_succ, List.set_cons_zero]
        refine hK _ _ ?_
        clear hK K
        try simp only [Act.put, List.setIfInBounds_toArray, List.set_cons_succ, List.set_cons_zero]
        refine lex_one (fun wx hC hd J HJ => ?_) (fun K hK v14 => ?_)
        · obtain - := hd
          go_wp2
          exact HJ.out _ _ <| opPost_mk rfl ((Ext.refl _).alloc _) ⟨_, rfl, Nat.le_refl _, by simp⟩ ⟨_, rfl, heap_alloc_new _ _, hC.size⟩
        simp only [Act.put, List.setIfInBounds_toArray, List.set_cons_succ, List.set_cons_zero]
        refine hK _ _ ?_
        clear hK K
        try simp only [Act.put, List.setIfInBounds_toArray, List.set_cons_succ, List.set_cons_zero]
        refine lex_one (fun wx hC hd J HJ => ?_) (fun K hK v15 => ?_)
        · obtain - := hd
          go_wp2
          exact HJ.out _ _ <| opPost_mk rfl ((Ext.refl _).alloc _) ⟨_, rfl, Nat.le_refl _, by simp⟩ ⟨_, rfl, heap_alloc_new _ _, hC.size⟩
        simp only [Act.put, List.setIfInBounds_toArray, List.set_cons_succ, List.set_cons_zero]
        refine hK _ _ ?_
        clear hK K
        refine lex_nil fun wx hC hd hp => ?_
        obtain ⟨-, -, ⟨iA, isA, kA, BA, qA, rfl, hfA⟩, -, -, -, -, ⟨iB, isB, kB, BB, qB, rfl, hfB⟩, -, -, -, -, ⟨iC, isC, kC, BC, qC, rfl, hfC⟩, ⟨g8, rfl, hg8, z8⟩, ⟨g9, rfl, hg9, z9⟩, ⟨g10, rfl, hg10, z10⟩, -⟩ := hd
        obtain ⟨⟨hn1, hn2, -⟩, ⟨hn3, -⟩, -, -⟩ := hp
        have n89 : ¬ g8 = g9 := fun e => hn1 (congrArg some e)
        have n810 : ¬ g8 = g10 := fun e => hn2 (congrArg some e)
        have n910 : ¬ g9 = g10 := fun e => hn3 (congrArg some e)
        have n98 : ¬ g9 = g8 := fun e => n89 e.symm
        have n108 : ¬ g10 = g8 := fun e => n810 e.symm
        have n109 : ¬ g10 = g9 := fun e => n910 e.symm
        clear hn1 hn2 hn3
        have c80 : wx.cell? ⟨g8, 0, none⟩ = some (.int .i64 0) := by simp [World.cell?, hg8]
        have f80 : wx.frozen? ⟨g8, 0, none⟩ = false := by simp [World.frozen?, hg8]
        have c81 : wx.cell? ⟨g8, 1, none⟩ = some (.bool false) := by simp [World.cell?, hg8]
        have f81 : wx.frozen? ⟨g8, 1, none⟩ = false := by simp [World.frozen?, hg8]
        have c82 : wx.cell? ⟨g8, 2, none⟩ = some (.slice none 0 0) := by simp [World.cell?, hg8]
        have f82 : wx.frozen? ⟨g8, 2, none⟩ = false := by simp [World.frozen?, hg8]
        have c90 : wx.cell? ⟨g9, 0, none⟩ = some (.int .i64 0) := by simp [World.cell?, hg9]
        have f90 : wx.frozen? ⟨g9, 0, none⟩ = false := by simp [World.frozen?, hg9]
        have c91 : wx.cell? ⟨g9, 1, none⟩ = some (.bool false) := by simp [World.cell?, hg9]
        have f91 : wx.frozen? ⟨g9, 1, none⟩ = false := by simp [World.frozen?, hg9]
        have c92 : wx.cell? ⟨g9, 2, none⟩ = some (.slice none 0 0) := by simp [World.cell?, hg9]
        have f92 : wx.frozen? ⟨g9, 2, none⟩ = false := by simp [World.frozen?, hg9]
        have c100 : wx.cell? ⟨g10, 0, none⟩ = some (.int .i64 0) := by simp [World.cell?, hg10]
        have f100 : wx.frozen? ⟨g10, 0, none⟩ = false := by simp [World.frozen?, hg10]
        have c101 : wx.cell? ⟨g10, 1, none⟩ = some (.bool false) := by simp [World.cell?, hg10]
        have f101 : wx.frozen? ⟨g10, 1, none⟩ = false := by simp [World.frozen?, hg10]
        have c102 : wx.cell? ⟨g10, 2, none⟩ = some (.slice none 0 0) := by simp [World.cell?, hg10]
        have f102 : wx.frozen? ⟨g10, 2, none⟩ = false := by simp [World.frozen?, hg10]
        have HA := Lib.hid hfA
        have HB := Lib.hid hfB
        have HC := Lib.hid hfC
        have HX := Lib.hid hC
        clear hfA hfB hfC hg8 hg9 hg10 hC
        try simp only [Act.put, List.setIfInBounds_toArray, List.set_cons_succ, List.set_cons_zero]
        go_wp2
        go_meet
        refine ⟨iA, isA, kA, BA, qA, iB, isB, kB, BB, qB, iC, isC, kC, BC, qC, ⟨g8, rfl, ?_, ?_, ?_⟩, ⟨g9, rfl, ?_, ?_, ?_⟩, ⟨g10, rfl, ?_, ?_, ?_⟩, HA.out, HB.out, HC.out, ?_⟩
        any_goals (go_simp; done)
        exact (((((((((HX.out.setCell z8 _).setCell z8 _).setCell z8 _).setCell z9 _).setCell z9 _).setCell z9 _).setCell z10 _).setCell z10 _).setCell z10 _)
      case rest =>
        obtain ⟨iA, isA, kA, BA, qA, iB, isB, kB, BB, qB, iC, isC, kC, BC, qC, ⟨g8, rfl, a0, a1, a2⟩, ⟨g9, rfl, b0, b1, b2⟩, ⟨g10, rfl, c0, c1, c2⟩, HFA, HFB, HFC, HE⟩ := hcut
        have hiA := HFA.out.1
        have hiB := HFB.out.1
        have hiC := HFC.out.1
        have hq : decide (n > 0) = true → (kA == 0) = false := fun h => by
          have := HFA.out.2.2.2.2.2.2 (by simpa using h)
          simp; omega
        by_cases hb : iB < k
        · obtain ⟨rfl, rfl⟩ := cut_first HL.out hkn2 HO.out HFA.out HFB.out hb
          have hn0 : 0 < n := by omega
          have hkA : ((kA : Int) == 0) = false := by have := HFA.out.2.2.2.2.2.2 hn0; simp; omega
          go_wp2
          go_ret
          exact ⟨rfl, HE2.out.trans HE.out⟩
        · obtain ⟨rfl, rfl, rfl, rfl⟩ := cut_second HL.out hkn2 HFA.out HFB.out HFC.out hb
          by_cases hn0 : 0 < n
          · have hkA : ((kA : Int) == 0) = false := by have := HFA.out.2.2.2.2.2.2 hn0; simp; omega
            go_wp2
            go_ret
            exact ⟨rfl, HE2.out.trans HE.out⟩
          · obtain rfl : n = 0 := by omega
            go_wp2
            go_ret
            exact ⟨rfl, HE2.out.trans HE.out⟩
end Go.Proofs.Ytjmbdaofnnmldaa
