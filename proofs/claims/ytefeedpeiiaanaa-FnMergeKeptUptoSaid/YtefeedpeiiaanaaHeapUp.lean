/- Calls of methods through an interface that holds a pointer to impl.itemHeap, and the contract of container/heap.up over it. No statement of the seat is proved here. -/
import Derived.Test.YtefeedpeiiaanaaHeapW
namespace Go.Proofs.Ytefeedpeiiaanaa
open Go.RowKit

theorem own_ext2 {w w' : World} {base : Nat} {e : TypeId} {sz n : Nat} {v : Value} {xs : List Value} (h : w.ownsRow base e sz v n xs) (k : Ext w w') : w'.ownsRow base e sz v n xs := by
  by_cases h0 : v.ownBlock = none
  · exact h.kept (grown_of_ext k none) (.inl h0)
  · exact h.kept (grown_of_ext k none) (.inr h0)

/-- The variable of a heap in block p: it holds the slice v, which owns the n items L. -/
structure HSt (w : World) (base p n : Nat) (v : Value) (L : List (Int × Int)) : Prop where
  blk : w.heap[p]? = some (.cells #[v] 48 (0, 0))
  own : w.ownsRow base 28 2 v n (its L)
  hb : base ≤ p

theorem HSt.len {w : World} {base p n : Nat} {v : Value} {L : List (Int × Int)} (h : HSt w base p n v L) : L.length = n := by
  have := h.own.1
  rw [its_length] at this
  omega
theorem HSt.ext {w w' : World} {base p n : Nat} {v : Value} {L : List (Int × Int)} (h : HSt w base p n v L) (k : Ext w w') : HSt w' base p n v L :=
  ⟨blk_ext k h.blk, own_ext2 h.own k, h.hb⟩
theorem HSt.cell {w : World} {base p n : Nat} {v : Value} {L : List (Int × Int)} (h : HSt w base p n v L) : w.cell? ⟨p, 0, none⟩ = some v := by
  simp [World.cell?, h.blk]
theorem HSt.frozen {w : World} {base p n : Nat} {v : Value} {L : List (Int × Int)} (h : HSt w base p n v L) : w.frozen? ⟨p, 0, none⟩ = false := by
  simp [World.frozen?, h.blk]
theorem HSt.swap {w w' : World} {base p n : Nat} {v : Value} {L L' : List (Int × Int)} (h : HSt w base p n v L) (ho : w'.ownsRow base 28 2 v n (its L')) (hg : w.grownBy w' v.ownBlock) : HSt w' base p n v L' :=
  ⟨blk_grown hg h.blk (row_ne h.own h.blk (by decide)), ho, h.hb⟩
theorem HSt.form {w : World} {base p n : Nat} {v : Value} {L : List (Int × Int)} (h : HSt w base p n v L) : ∃ A c, v = .slice A n c ∧ n ≤ 9223372036854775807 := by
  obtain ⟨A, c, rfl, hr⟩ := own_form h.own
  have := hr.lim
  unfold maxLen at this
  exact ⟨A, c, rfl, by omega⟩

theorem method_val (p : Nat) (v : Value) (w : World) (h : w.cell? ⟨p, 0, none⟩ = some v) : (loadVar 48 ⟨p, 0, none⟩).run Try.prog w = .ok v w := by
  simp [go_sem, h]

theorem run_wrapchk (P : Program) (ts : Array TypeId) (t : TypeId) (a : Addr) (s1 s2 : ByteArray) (w : World) : (Builtin.ssaWrapNilChk_ ts t #[.pointer (some a), .string s1, .string s2]).run P w = .ok (.pointer (some a)) w := rfl
/-- A method of a value, called through an interface that holds a pointer to it. -/
theorem run_method_val {P : Program} {t elem : TypeId} {name : String} {f : FuncId} (hm : ((P.info? t).bind fun i => (i.methods.find? (·.name == name)).map fun m => (m.path.toList, m.func)) = some ([], some (f, false)))
    (hu : P.underlying t = some (.pointer elem)) (N : Nat) (a : Addr) (v : Value) (w : World) (h : (loadVar elem a).run P w = .ok v w) : (method (N + 1) t (.pointer (some a)) name).run P w = .ok (f, v) w := by
  cases hi : P.info? t with
  | none => rw [hi] at hm; cases hm
  | some i =>
    rw [hi] at hm
    simp only [Option.bind_some] at hm
    cases hf : i.methods.find? (·.name == name) with
    | none => rw [hf] at hm; cases hm
    | some m =>
      rw [hf] at hm
      simp only [Option.map_some, Option.some.injEq, Prod.mk.injEq] at hm
      obtain ⟨h1, h2⟩ := hm
      have h3 : m.path = #[] := by cases hp : m.path; rw [hp] at h1; simp at h1; rw [h1]
      have hu' := run_underlying hu w
      unfold method
      simp [typeInfo, hi, hf, h2, follow, receiverAt, hu', Place.get, run_wrapchk, h3, strVal, asAddr, h]
theorem run_method_ptr {P : Program} {t elem : TypeId} {name : String} {f : FuncId} (hm : ((P.info? t).bind fun i => (i.methods.find? (·.name == name)).map fun m => (m.path.toList, m.func)) = some ([], some (f, true)))
    (hu : P.underlying t = some (.pointer elem)) (N : Nat) (a : Option Addr) (w : World) : (method (N + 1) t (.pointer a) name).run P w = .ok (f, .pointer a) w := by
  cases hi : P.info? t with
  | none => rw [hi] at hm; cases hm
  | some i =>
    rw [hi] at hm
    simp only [Option.bind_some] at hm
    cases hf : i.methods.find? (·.name == name) with
    | none => rw [hf] at hm; cases hm
    | some m =>
      rw [hf] at hm
      simp only [Option.map_some, Option.some.injEq, Prod.mk.injEq] at hm
      obtain ⟨h1, h2⟩ := hm
      have hu' := run_underlying hu w
      unfold method
      simp [typeInfo, hi, hf, h1, h2, follow, receiverAt, hu', Place.get]
theorem method_len (p : Nat) (v : Value) (w : World) (h : w.cell? ⟨p, 0, none⟩ = some v) : (method 204 50 (.pointer (some ⟨p, 0, none⟩)) "Len").run Try.prog w = .ok (65, v) w :=
  run_method_val (by kernel_rfl) Try.underlying50 203 _ v w (method_val p v w h)
theorem method_less (p : Nat) (v : Value) (w : World) (h : w.cell? ⟨p, 0, none⟩ = some v) : (method 204 50 (.pointer (some ⟨p, 0, none⟩)) "Less").run Try.prog w = .ok (66, v) w :=
  run_method_val (by kernel_rfl) Try.underlying50 203 _ v w (method_val p v w h)
theorem method_swap (p : Nat) (v : Value) (w : World) (h : w.cell? ⟨p, 0, none⟩ = some v) : (method 204 50 (.pointer (some ⟨p, 0, none⟩)) "Swap").run Try.prog w = .ok (67, v) w :=
  run_method_val (by kernel_rfl) Try.underlying50 203 _ v w (method_val p v w h)
theorem method_push (a : Option Addr) (w : World) : (method 204 50 (.pointer a) "Push").run Try.prog w = .ok (69, .pointer a) w :=
  run_method_ptr (by kernel_rfl) Try.underlying50 203 a w
theorem method_pop (a : Option Addr) (w : World) : (method 204 50 (.pointer a) "Pop").run Try.prog w = .ok (68, .pointer a) w :=
  run_method_ptr (by kernel_rfl) Try.underlying50 203 a w

theorem upL_stop {f k : Nat} {M : List (Int × Int)} (h : k = 0 ∨ ltP (at0 M k) (at0 M ((k - 1) / 2)) = false) : upL f M k = M := by
  cases f with
  | zero => rfl
  | succ f =>
    unfold upL
    rcases h with h | h
    · subst h; rfl
    · rw [h]; simp
theorem upL_go {f k : Nat} {M : List (Int × Int)} (h0 : 0 < k) (h : ltP (at0 M k) (at0 M ((k - 1) / 2)) = true) : upL (f + 1) M k = upL f (swapL M ((k - 1) / 2) k) ((k - 1) / 2) := by
  conv => lhs; unfold upL
  rw [if_neg (by omega), if_pos h]

set_option maxHeartbeats 800000 in
theorem up_ok (w : World) (base p n : Nat) (v : Value) (L : List (Int × Int)) (j : Nat) (h : HSt w base p n v L) (hj : j < n) :
    Calls Try.prog 41 #[.iface 50 (.pointer (some ⟨p, 0, none⟩)), .int .i64 (j : Int)] w fun e w' => e = .returned (.tuple #[]) ∧ HSt w' base p n v (upL (j + 1) L j) ∧ w.grownBy w' v.ownBlock := by
  obtain ⟨A, c, rfl, hlim⟩ := h.form
  obtain ⟨Z, hZ⟩ : ∃ Z, Z = upL (j + 1) L j := ⟨_, rfl⟩
  rw [← hZ]
  have HZ := Lib.hid hZ.symm
  have HH := Lib.hid h
  clear hZ h
  go_enter Try.func41, Try.ntmps41
  go_wp2
  go_loopg [1] (j + 1) (fun kx s wr => ∃ (k : Nat) (M : List (Int × Int)), s = .int .i64 (k : Int) ∧ k < kx ∧ k < n ∧ Hid (upL kx M k = Z) ∧ Hid (HSt wr base p n (.slice A n c) M) ∧ Hid (w.grownBy wr (Value.slice A n c).ownBlock))
  case atStart => exact ⟨j, L, rfl, by omega, hj, HZ.out, HH.out, World.grownBy.refl w _⟩
  case round =>
    obtain ⟨k, M, rfl, hkx, hkl, HU, HM, HG⟩ := hrel
    obtain ⟨i, hi⟩ : ∃ i, i = (k - 1) / 2 := ⟨_, rfl⟩
    have HI := Lib.hid hi
    have hq : ((k : Int) - 1).tdiv 2 = (i : Int) := by
      subst hi
      rcases Nat.eq_zero_or_pos k with h0 | h0
      · subst h0; rfl
      · rw [Int.tdiv_eq_ediv_of_nonneg (by omega)]; omega
    by_cases hk0 : k = 0
    · have hik : i = 0 := by omega
      subst hk0 hik
      clear hi
      go_wp2
      go_end0
      have e := HU.out
      rw [upL_stop (.inl rfl)] at e
      rw [← e]
      exact ⟨rfl, HM.out, HG.out⟩
    · have hik : ¬ i = k := by omega
      have hin : i < n := by omega
      clear hi
      have HR := Lib.hid (Row.own HM.out.own)
      have hml := method_less p _ wr HM.out.cell
      by_cases hlt : ltP (at0 M k) (at0 M i) = true
      · go_wp2_with (go_at_call 66; refine (less_ok A n c k i M _ HR.out hkl hin).mono ?_; rintro e w1 ⟨rfl, hx1⟩; have hms := method_swap p _ w1 (HM.out.ext hx1).cell)
        refine (swap_ok w1 base (.slice A n c) n i k M (HM.out.ext hx1).own hin hkl).mono ?_
        rintro e w2 ⟨rfl, ho2, hg2⟩
        have HM2 := Lib.hid ((HM.out.ext hx1).swap ho2 hg2)
        have HG2 := Lib.hid (grown_trans HG.out (grown_trans (grown_of_ext hx1 _) hg2))
        clear ho2 hg2 hx1 hms hml
        go_wp2
        go_roundg (gk - 1)
        case measure => omega
        case rel =>
          refine ⟨i, _, rfl, by have := HI.out; omega, hin, ?_, HM2.out, HG2.out⟩
          have e := HU.out
          obtain ⟨g, rfl⟩ : ∃ g, gk = g + 1 := ⟨gk - 1, by omega⟩
          rw [HI.out] at hlt ⊢
          rw [upL_go (by omega) hlt] at e
          exact e
      · have hlt2 : ltP (at0 M k) (at0 M i) = false := by simpa using hlt
        clear hlt
        go_wp2_with (go_at_call 66; refine (less_ok A n c k i M _ HR.out hkl hin).mono ?_; rintro e w1 ⟨rfl, hx1⟩)
        go_end0
        have e := HU.out
        rw [HI.out] at hlt2
        rw [upL_stop (.inr hlt2)] at e
        rw [← e]
        exact ⟨rfl, HM.out.ext hx1, grown_trans HG.out (grown_of_ext hx1 _)⟩
end Go.Proofs.Ytefeedpeiiaanaa
