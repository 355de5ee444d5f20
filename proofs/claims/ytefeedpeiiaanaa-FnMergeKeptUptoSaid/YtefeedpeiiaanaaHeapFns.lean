/- The contracts of container/heap's Init, Push, Pop, Remove and Fix over impl.itemHeap. No statement of the seat is proved here. -/
import Derived.Test.YtefeedpeiiaanaaHeapOps
import Derived.Test.YtefeedpeiiaanaaHeapPlain2
namespace Go.Proofs.Ytefeedpeiiaanaa
open Go.RowKit

set_option maxHeartbeats 800000 in
theorem hinit_ok (w : World) (base p N : Nat) (v : Value) (L : List (Int × Int)) (h : HSt w base p N v L) (hs : N ≤ 1099511627776) :
    Calls Try.prog 22 #[.iface 50 (.pointer (some ⟨p, 0, none⟩))] w fun e w' => e = .returned (.tuple #[]) ∧ HSt w' base p N v (initL L) ∧ w.grownBy w' v.ownBlock := by
  obtain ⟨A, c, rfl, -⟩ := h.form
  obtain ⟨Z, hZ⟩ : ∃ Z, initL L = Z := ⟨_, rfl⟩
  rw [hZ]
  have hZ2 : initFrom (N / 2) L = Z := by rw [← hZ, initL, h.len]
  have HZ := Lib.hid hZ2
  have HH := Lib.hid h
  have hml := method_len p _ w h.cell
  clear hZ hZ2 h
  go_enter Try.func22, Try.ntmps22
  go_wp2_with (go_at_call 65; refine (len_ok A N c _).mono ?_; rintro e w' ⟨rfl, rfl⟩)
  go_loopg [3] (N / 2) (fun kx s wr => ∃ (z : Int) (M : List (Int × Int)), s = .int .i64 z ∧ Hid (z + 1 = (kx : Int)) ∧ kx ≤ N / 2 ∧ Hid (initFrom kx M = Z) ∧ Hid (HSt wr base p N (.slice A N c) M) ∧ Hid (w.grownBy wr (Value.slice A N c).ownBlock))
  case atStart => exact ⟨_, L, rfl, by unfold Hid; omega, Nat.le_refl _, HZ.out, HH.out, World.grownBy.refl w _⟩
  case round =>
    obtain ⟨z, M, rfl, hz, hk, HU, HM, HG⟩ := hrel
    cases gk with
    | zero =>
      obtain rfl : z = -1 := by have := hz.out; omega
      go_wp2
      go_end0
      have e := HU.out
      simp only [initFrom] at e
      rw [← e]
      exact ⟨rfl, HM.out, HG.out⟩
    | succ g =>
      obtain rfl : z = (g : Int) := by have := hz.out; omega
      have hgN : g ≤ N := by omega
      go_wp2_with fail
      refine (down_ok wr base p N (.slice A N c) M g N HM.out (Nat.le_refl _) hgN hs).mono ?_
      rintro e w1 ⟨rfl, hh1, hg1⟩
      have HM1 := Lib.hid hh1
      have HG1 := Lib.hid (grown_trans HG.out hg1)
      clear hh1 hg1
      go_wp2
      go_roundg g
      case measure => omega
      case rel =>
        refine ⟨_, _, rfl, by unfold Hid; omega, by omega, ?_, HM1.out, HG1.out⟩
        have e := HU.out
        simp only [initFrom] at e
        rw [HM.out.len] at e
        exact e

set_option maxHeartbeats 800000 in
theorem hpush_ok (w : World) (base p n : Nat) (v : Value) (L : List (Int × Int)) (x1 x2 : Int) (h : HSt w base p n v L) (hs : n ≤ 1099511627776) (hbase : base ≤ w.heap.size) :
    Calls Try.prog 30 #[.iface 50 (.pointer (some ⟨p, 0, none⟩)), .iface 28 (.agg #[.int .i64 x1, .int .i64 x2])] w fun e w' => e = .returned (.tuple #[]) ∧ ∃ v', HSt w' base p (n + 1) v' (pushL L (x1, x2)) ∧ Grown2 w w' p v.ownBlock ∧ Moved w v v' := by
  have hpl : pushL L (x1, x2) = upL (n + 1) (L ++ [(x1, x2)]) n := by rw [pushL, h.len]
  rw [hpl]
  have hmp := method_push (some ⟨p, 0, none⟩)
  have HP := Lib.hid (pushM_ok w base p n v L x1 x2 h hs hbase)
  clear hpl h
  go_enter Try.func30, Try.ntmps30
  go_wp2_with fail
  refine HP.out.mono ?_
  rintro e w1 ⟨rfl, v', hh1, hg1, hm1⟩
  obtain ⟨A, c, rfl, -⟩ := hh1.form
  have HH1 := Lib.hid hh1
  have HG1 := Lib.hid hg1
  have HM1 := Lib.hid hm1
  have hml := method_len p _ w1 hh1.cell
  clear hh1 hg1 hm1
  go_wp2_with (go_at_call 65; refine (len_ok A (n + 1) c _).mono ?_; rintro e w' ⟨rfl, rfl⟩)
  have en : ((n + 1 : Nat) : Int) - 1 = (n : Int) := by omega
  refine (up_ok w1 base p (n + 1) _ _ n HH1.out (by omega)).mono ?_
  rintro e w2 ⟨rfl, hh2, hg2⟩
  have HH2 := Lib.hid hh2
  have HG2 := Lib.hid (Grown2.trans HG1.out HM1.out (Grown2.of hg2 p))
  clear hh2 hg2
  go_wp2
  go_end0
  exact ⟨rfl, _, HH2.out, HG2.out, HM1.out⟩

set_option maxHeartbeats 800000 in
theorem hpop_ok (w : World) (base p N : Nat) (v : Value) (L : List (Int × Int)) (h : HSt w base p N v L) (hn : 0 < N) (hs : N ≤ 1099511627776) :
    Calls Try.prog 31 #[.iface 50 (.pointer (some ⟨p, 0, none⟩))] w fun e w' => e = .returned (.iface 28 (.agg #[.int .i64 (at0 L 0).1, .int .i64 (at0 L 0).2])) ∧ ∃ v', HSt w' base p (N - 1) v' ((popL L).take (L.length - 1)) ∧ Grown2 w w' p v.ownBlock ∧ Moved w v v' := by
  have hl := h.len
  have hpl := popL_last (L := L) (by omega)
  obtain ⟨Z, hZ⟩ : ∃ Z, popL L = Z := ⟨_, rfl⟩
  rw [hZ] at hpl ⊢
  rw [← hpl]
  have hZ2 := hZ
  unfold popL at hZ2
  rw [hl] at hZ2 ⊢
  obtain ⟨A, c, rfl, -⟩ := h.form
  have HZ := Lib.hid hZ2
  have hml := method_len p _ w h.cell
  have hms := method_swap p _ w h.cell
  have hmp := method_pop (some ⟨p, 0, none⟩)
  have HH := Lib.hid h
  obtain ⟨m, hm⟩ : ∃ m, m = N - 1 := ⟨_, rfl⟩
  have em : (N : Int) - 1 = (m : Int) := by omega
  have hmN : m < N := by omega
  rw [← hm] at HZ ⊢
  have HM := Lib.hid hm
  clear h hl hpl hZ hZ2 hm
  go_enter Try.func31, Try.ntmps31
  go_wp2_with (go_at_call 65; refine (len_ok A N c _).mono ?_; rintro e w' ⟨rfl, rfl⟩)
  refine (swap_ok w base (.slice A N c) N 0 m L HH.out.own hn hmN).mono ?_
  rintro e w1 ⟨rfl, ho1, hg1⟩
  have HH1 := Lib.hid (HH.out.swap ho1 hg1)
  have HG1 := Lib.hid hg1
  clear ho1 hg1 hml hms
  go_wp2_with fail
  refine (down_ok w1 base p N (.slice A N c) _ 0 m HH1.out (by omega) (by omega) hs).mono ?_
  rintro e w2 ⟨rfl, hh2, hg2⟩
  rw [HZ.out] at hh2
  have HH2 := Lib.hid hh2
  have HG2 := Lib.hid (grown_trans HG1.out hg2)
  clear hh2 hg2
  go_wp2_with fail
  refine (popM_ok w2 base p N _ _ HH2.out hn).mono ?_
  rintro e w3 ⟨rfl, v', hh3, hg3, he3⟩
  rw [← HM.out] at hh3 ⊢
  have HH3 := Lib.hid hh3
  have HG3 := Lib.hid (Grown2.trans (v' := .slice A N c) (Grown2.of HG2.out p) (.inl rfl) hg3)
  have HE3 : Hid (Moved w (.slice A N c) v') := .inl he3
  clear hh3 hg3 he3
  go_wp2
  go_ret
  exact ⟨rfl, v', HH3.out, HG3.out, HE3.out⟩

set_option maxHeartbeats 800000 in
theorem hfix_ok (w : World) (base p N : Nat) (v : Value) (L : List (Int × Int)) (i : Nat) (h : HSt w base p N v L) (hi : i < N) (hs : N ≤ 1099511627776) :
    Calls Try.prog 33 #[.iface 50 (.pointer (some ⟨p, 0, none⟩)), .int .i64 (i : Int)] w fun e w' => e = .returned (.tuple #[]) ∧ HSt w' base p N v (fixAt L i N) ∧ w.grownBy w' v.ownBlock := by
  obtain ⟨A, c, rfl, -⟩ := h.form
  have hml := method_len p _ w h.cell
  have HH := Lib.hid h
  clear h
  by_cases hlt : i < (downL N L i N).2
  · have HF : Hid ((downL N L i N).1 = fixAt L i N) := by unfold Hid fixAt; rw [if_pos hlt]
    have hd := down_ok w base p N (.slice A N c) L i N HH.out (Nat.le_refl _) (by omega) hs
    rw [decide_eq_true hlt, HF.out] at hd
    have HD := Lib.hid hd
    clear hd hlt
    go_enter Try.func33, Try.ntmps33
    go_wp2_with (go_at_call 65; refine (len_ok A N c _).mono ?_; rintro e w' ⟨rfl, rfl⟩)
    refine HD.out.mono ?_
    rintro e w1 ⟨rfl, hh1, hg1⟩
    have HH1 := Lib.hid hh1
    have HG1 := Lib.hid hg1
    clear hh1 hg1
    go_wp2
    go_end0
    exact ⟨rfl, HH1.out, HG1.out⟩
  · have HF : Hid (upL (i + 1) (downL N L i N).1 i = fixAt L i N) := by unfold Hid fixAt; rw [if_neg hlt]
    have hd := down_ok w base p N (.slice A N c) L i N HH.out (Nat.le_refl _) (by omega) hs
    rw [decide_eq_false hlt] at hd
    generalize (downL N L i N).1 = M at hd HF
    have HD := Lib.hid hd
    clear hd hlt
    go_enter Try.func33, Try.ntmps33
    go_wp2_with (go_at_call 65; refine (len_ok A N c _).mono ?_; rintro e w' ⟨rfl, rfl⟩)
    refine HD.out.mono ?_
    rintro e w1 ⟨rfl, hh1, hg1⟩
    have HH1 := Lib.hid hh1
    have HG1 := Lib.hid hg1
    clear hh1 hg1
    go_wp2_with fail
    refine (up_ok w1 base p N _ M i HH1.out hi).mono ?_
    rintro e w2 ⟨rfl, hh2, hg2⟩
    rw [HF.out] at hh2
    have HH2 := Lib.hid hh2
    have HG2 := Lib.hid (grown_trans HG1.out hg2)
    clear hh2 hg2
    go_wp2
    go_end0
    exact ⟨rfl, HH2.out, HG2.out⟩

set_option maxHeartbeats 1600000 in
theorem hremove_ok (w : World) (base p N : Nat) (v : Value) (L : List (Int × Int)) (i : Nat) (h : HSt w base p N v L) (hi : i < N) (hs : N ≤ 1099511627776) :
    Calls Try.prog 32 #[.iface 50 (.pointer (some ⟨p, 0, none⟩)), .int .i64 (i : Int)] w fun e w' => e = .returned (.iface 28 (.agg #[.int .i64 (at0 L i).1, .int .i64 (at0 L i).2])) ∧ ∃ v', HSt w' base p (N - 1) v' ((removeL L i).take (L.length - 1)) ∧ Grown2 w w' p v.ownBlock ∧ Moved w v v' := by
  have hl := h.len
  have hpl := removeL_last (L := L) (i := i) (by omega)
  obtain ⟨Z, hZ⟩ : ∃ Z, removeL L i = Z := ⟨_, rfl⟩
  rw [hZ] at hpl ⊢
  rw [← hpl]
  have hZ2 := hZ
  unfold removeL at hZ2
  rw [hl] at hZ2 ⊢
  obtain ⟨A, c, rfl, -⟩ := h.form
  have hml := method_len p _ w h.cell
  have hms := method_swap p _ w h.cell
  have hmp := method_pop (some ⟨p, 0, none⟩)
  have HH := Lib.hid h
  obtain ⟨m, hm⟩ : ∃ m, m = N - 1 := ⟨_, rfl⟩
  have em : (N : Int) - 1 = (m : Int) := by omega
  have hmN : m < N := by omega
  have him : i ≤ m := by omega
  rw [← hm] at hZ2 ⊢
  have HM := Lib.hid hm
  clear h hl hpl hZ hm
  have hfin : Hid (∀ w2, HSt w2 base p N (.slice A N c) Z → w.grownBy w2 (Value.slice A N c).ownBlock → Calls Try.prog 68 #[.pointer (some ⟨p, 0, none⟩)] w2 fun e w' => e = .returned (.iface 28 (.agg #[.int .i64 (at0 Z m).1, .int .i64 (at0 Z m).2])) ∧ Hid (∃ v', HSt w' base p m v' (Z.take m) ∧ Grown2 w w' p (Value.slice A N c).ownBlock ∧ Moved w (.slice A N c) v')) := by
    intro w2 h2 hg2
    refine (popM_ok w2 base p N _ _ h2 (by omega)).mono ?_
    rintro e w3 ⟨rfl, v', hh3, hg3, he3⟩
    rw [← HM.out] at hh3 ⊢
    exact ⟨rfl, v', hh3, Grown2.trans (v' := .slice A N c) (Grown2.of hg2 p) (.inl rfl) hg3, .inl he3⟩
  by_cases hmi : m = i
  · rw [if_pos hmi] at hZ2
    subst hmi hZ2
    go_enter Try.func32, Try.ntmps32
    go_wp2_with (go_at_call 65; refine (len_ok A N c _).mono ?_; rintro e w' ⟨rfl, rfl⟩)
    refine (hfin.out w HH.out (World.grownBy.refl w _)).mono ?_
    rintro e w3 ⟨rfl, HF⟩
    go_wp2
    go_ret
    exact ⟨rfl, HF.out⟩
  · rw [if_neg hmi] at hZ2
    have hmi2 : ((m : Int) != (i : Int)) = true := by simp; omega
    by_cases hlt : i < (downL m (swapL L i m) i m).2
    · unfold fixAt at hZ2
      rw [if_pos hlt] at hZ2
      have HZ := Lib.hid hZ2
      have HLT := Lib.hid hlt
      clear hZ2 hlt
      go_enter Try.func32, Try.ntmps32
      go_wp2_with (go_at_call 65; refine (len_ok A N c _).mono ?_; rintro e w' ⟨rfl, rfl⟩)
      refine (swap_ok w base (.slice A N c) N i m L HH.out.own hi hmN).mono ?_
      rintro e w1 ⟨rfl, ho1, hg1⟩
      have HH1 := Lib.hid (HH.out.swap ho1 hg1)
      have HG1 := Lib.hid hg1
      clear ho1 hg1 hml hms
      have hd := down_ok w1 base p N (.slice A N c) _ i m HH1.out (by omega) (by omega) hs
      rw [decide_eq_true HLT.out, HZ.out] at hd
      have HD := Lib.hid hd
      clear hd
      go_wp2_with fail
      refine HD.out.mono ?_
      rintro e w2 ⟨rfl, hh2, hg2⟩
      have HP := Lib.hid (hfin.out w2 hh2 (grown_trans HG1.out hg2))
      clear hh2 hg2
      go_wp2_with fail
      refine HP.out.mono ?_
      rintro e w3 ⟨rfl, HF⟩
      go_wp2
      go_ret
      exact ⟨rfl, HF.out⟩
    · unfold fixAt at hZ2
      rw [if_neg hlt] at hZ2
      have HZ := Lib.hid hZ2
      have HLT := Lib.hid hlt
      clear hZ2 hlt
      go_enter Try.func32, Try.ntmps32
      go_wp2_with (go_at_call 65; refine (len_ok A N c _).mono ?_; rintro e w' ⟨rfl, rfl⟩)
      refine (swap_ok w base (.slice A N c) N i m L HH.out.own hi hmN).mono ?_
      rintro e w1 ⟨rfl, ho1, hg1⟩
      have HH1 := Lib.hid (HH.out.swap ho1 hg1)
      have HG1 := Lib.hid hg1
      clear ho1 hg1 hml hms
      have hd := down_ok w1 base p N (.slice A N c) _ i m HH1.out (by omega) (by omega) hs
      rw [decide_eq_false HLT.out] at hd
      have HD := Lib.hid hd
      clear hd
      go_wp2_with fail
      refine HD.out.mono ?_
      rintro e w2 ⟨rfl, hh2, hg2⟩
      have hu := up_ok w2 base p N _ _ i hh2 hi
      rw [HZ.out] at hu
      have HU := Lib.hid hu
      have HG2 := Lib.hid (grown_trans HG1.out hg2)
      clear hh2 hg2 hu
      go_wp2_with fail
      refine HU.out.mono ?_
      rintro e w3 ⟨rfl, hh3, hg3⟩
      have HP := Lib.hid (hfin.out w3 hh3 (grown_trans HG2.out hg3))
      clear hh3 hg3
      go_wp2_with fail
      refine HP.out.mono ?_
      rintro e w4 ⟨rfl, HF⟩
      go_wp2
      go_ret
      exact ⟨rfl, HF.out⟩
end Go.Proofs.Ytefeedpeiiaanaa
