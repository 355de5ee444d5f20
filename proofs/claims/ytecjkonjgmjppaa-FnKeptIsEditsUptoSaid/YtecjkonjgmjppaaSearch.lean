/- The contracts of impl.Search and what it calls: the place of a key in items that are in order, and how many of them are asked for. No statement of the seat is proved here. -/
import Derived.Test.YtecjkonjgmjppaaApart
import Derived.Test.YtecjkonjgmjppaaSortPlain
import Derived.Deep.LoopGhost
import Derived.Deep.DeepCutAuto
import Derived.Test.YtecjkonjgmjppaaCmp
namespace Go.Proofs.Ytecjkonjgmjppaa
open Go.RowKit

/-- The worlds of a search: only the block g of the answer, and what is new, has turned; k items have been asked for. -/
def SInv (w : World) (N g k : Nat) (wr : World) : Prop :=
  ∃ v zs, Ext w wr ∧ w.heap.size ≤ N ∧ w.heap.size ≤ g ∧ N ≠ g ∧ wr.heap[g]? = some (.cells #[.int .i64 0, .bool false, v] 34 (0, 0)) ∧ wr.heap[N]? = some (.cells #[.int .i64 0, .bool false, .slice none 0 0] 34 (0, 0)) ∧ wr.ownsRow w.heap.size 3 1 v k zs

set_option maxHeartbeats 400000 in
theorem ask_ok (w wr : World) (N g k : Nat) (x y key : Int) (hi : SInv w N g k wr) (hk : k ≤ 1099511627776) :
    Calls Try.prog 17 #[.agg #[.int .i64 x, .int .i64 y], .int .i64 key, .pointer (some ⟨g, 0, none⟩)] wr fun e w' => e = .returned (.int .i64 (cmpI x key)) ∧ SInv w N g (k + 1) w' := by
  obtain ⟨v, zs, hext, hN, hg, hNg, hb, hbN, hown⟩ := hi
  have hlt := blk_lt hb
  have c2 : wr.cell? ⟨g, 2, none⟩ = some v := by simp [World.cell?, hb]
  have f2 : wr.frozen? ⟨g, 2, none⟩ = false := by simp [World.frozen?, hb]
  have hvg := row_ne hown hb (by decide)
  have hvN := row_ne hown hbN (by decide)
  have hml1 : 1 ≤ maxLen := by unfold maxLen; omega
  have hmx : k + 1 ≤ maxLen := by unfold maxLen; omega
  have hby : (k + 1) * 8 ≤ 140737488355328 := by omega
  have hz := hext.size
  have hone := ints_one [y]
  have HO := Lib.hid hown
  have HE := Lib.hid hext
  have HB := Lib.hid hb
  have HBN := Lib.hid hbN
  have HVG := Lib.hid hvg
  have HVN := Lib.hid hvN
  have HNG := Lib.hid hNg
  clear hown hext hb hbN hvg hvN hNg
  have HV := Lib.hid (fun B hB => (by have := (HO.out.lt B hB).2; omega : B < wr.heap.size))
  go_enter Try.func17, Try.ntmps17
  go_wp2_with (at_builtin; refine Stand.out ?_)
  refine Stand.mk (wpList_apps elInt rfl _ _ rfl w.heap.size v k _ rfl ((HO.out.alloc _).alloc _) _ 1 1 [.int .i64 y] rfl (Row.fresh' _ _ _ #[.int .i64 y] _ _ (by simp) rfl hml1) hone hby hmx (by simp; omega) ?_)
  intro A1 q1 w1 HO1 HG1 HL1
  have hb1 := blk_grown HG1.out (blk_ext (((Ext.refl wr).alloc _).alloc _) HB.out) HVG.out
  have hbN1 := blk_grown HG1.out (blk_ext (((Ext.refl wr).alloc _).alloc _) HBN.out) HVN.out
  have c2' : w1.cell? ⟨g, 2, none⟩ = some v := by simp [World.cell?, hb1]
  have f2' : w1.frozen? ⟨g, 2, none⟩ = false := by simp [World.frozen?, hb1]
  have cx' : w1.cell? ⟨wr.heap.size, 0, none⟩ = some (.int .i64 x) := HG1.out.cell (by go_simp) (fun e => by have := HV.out _ e.symm; simp at this)
  have HB1 := Lib.hid hb1
  have HBN1 := Lib.hid hbN1
  clear c2 f2 hb1 hbN1
  have hgn : g ≠ wr.heap.size := by omega
  have HE1 : Hid (Ext w w1) := ((HE.out.alloc _).alloc _).grown HG1.out fun B hB => (HO.out.lt B hB).1
  go_wp2_with fail
  refine (compare_ok _ _ _).mono ?_
  rintro e w2 ⟨rfl, rfl⟩
  go_wp2
  go_ret
  have hne1 : (Value.slice A1 (k + 1) q1).ownBlock ≠ some g := row_ne HO1.out HB1.out (by decide)
  exact ⟨rfl, _, _, HE1.out.setCell (by exact hg) _, hN, hg, HNG.out, blk_set HB1.out 2 _, blk_far HBN1.out (by exact HNG.out) _, own_far HO1.out (by exact hne1) _⟩

/-- What a search finds: the place, whether the key is there, and how many items are asked for. -/
def SFound (S : List (Int × Int)) (key : Int) (n i : Nat) (is : Bool) (k : Nat) : Prop :=
  i ≤ n ∧ (∀ t x, t < i → S[t]? = some x → x.1 < key) ∧ (∀ t x, i ≤ t → S[t]? = some x → key ≤ x.1) ∧ (is = true ↔ ∃ x, S[i]? = some x ∧ x.1 = key) ∧ (∀ B, n < 2 ^ B → k ≤ B + 1) ∧ (0 < k ↔ 0 < n)

/-- How far a search has come: what is between lo and hi is still open. -/
def SLoop (S : List (Int × Int)) (key : Int) (n lo hi k : Nat) : Prop :=
  (∀ t x, t < lo → S[t]? = some x → x.1 < key) ∧ (∀ t x, hi ≤ t → S[t]? = some x → key ≤ x.1) ∧ (∀ B, n < 2 ^ B → ∃ j, hi - lo < 2 ^ j ∧ k + j ≤ B) ∧ (k = 0 → lo = 0 ∧ hi = n) ∧ (0 < k → 0 < n) ∧ hi ≤ n

theorem SLoop.start {S : List (Int × Int)} {key : Int} {n : Nat} (hl : S.length = n) : SLoop S key n 0 n 0 :=
  ⟨fun t x h => absurd h (Nat.not_lt_zero _), fun t x h hx => (by rw [List.getElem?_eq_none (by omega)] at hx; cases hx), fun B hB => ⟨B, by omega, by omega⟩, fun _ => ⟨rfl, rfl⟩, fun h => absurd h (Nat.lt_irrefl _), Nat.le_refl _⟩

theorem half_lt {a j : Nat} (h : a < 2 ^ (j + 1)) : a / 2 < 2 ^ j := by rw [Nat.pow_succ] at h; omega
theorem SLoop.right {S : List (Int × Int)} {key : Int} {n lo hi k : Nat} {x : Int × Int} (h : SLoop S key n lo hi k) (ho : Ord S) (hlt : lo < hi) (hx : S[(lo + hi) / 2]? = some x) (hk : x.1 < key) :
    SLoop S key n ((lo + hi) / 2 + 1) hi (k + 1) := by
  refine ⟨fun t y ht hy => ?_, h.2.1, fun B hB => ?_, fun h0 => by omega, fun _ => (by have := h.2.2.2.2.2; omega), h.2.2.2.2.2⟩
  · rcases Nat.lt_or_ge t ((lo + hi) / 2) with h1 | h1
    · have hle : leP y x = true := by
        obtain ⟨h2, e2⟩ := List.getElem?_eq_some_iff.1 hy
        obtain ⟨h3, e3⟩ := List.getElem?_eq_some_iff.1 hx
        rw [← e2, ← e3]
        exact List.pairwise_iff_getElem.1 ho t _ h2 h3 h1
      rw [leP_iff] at hle
      omega
    · obtain rfl : t = (lo + hi) / 2 := by omega
      rw [hx] at hy
      injection hy with hy
      subst hy
      exact hk
  · obtain ⟨j, hj, hkj⟩ := h.2.2.1 B hB
    cases j with
    | zero => simp at hj; omega
    | succ j =>
      have := half_lt hj
      exact ⟨j, by omega, by omega⟩
theorem SLoop.left {S : List (Int × Int)} {key : Int} {n lo hi k : Nat} {x : Int × Int} (h : SLoop S key n lo hi k) (ho : Ord S) (hlt : lo < hi) (hx : S[(lo + hi) / 2]? = some x) (hk : key ≤ x.1) :
    SLoop S key n lo ((lo + hi) / 2) (k + 1) := by
  refine ⟨h.1, fun t y ht hy => ?_, fun B hB => ?_, fun h0 => by omega, fun _ => (by have := h.2.2.2.2.2; omega), (by have := h.2.2.2.2.2; omega)⟩
  · rcases Nat.lt_or_ge ((lo + hi) / 2) t with h1 | h1
    · have hle : leP x y = true := by
        obtain ⟨h2, e2⟩ := List.getElem?_eq_some_iff.1 hy
        obtain ⟨h3, e3⟩ := List.getElem?_eq_some_iff.1 hx
        rw [← e2, ← e3]
        exact List.pairwise_iff_getElem.1 ho _ t h3 h2 h1
      rw [leP_iff] at hle
      omega
    · obtain rfl : t = (lo + hi) / 2 := by omega
      rw [hx] at hy
      injection hy with hy
      subst hy
      exact hk
  · obtain ⟨j, hj, hkj⟩ := h.2.2.1 B hB
    cases j with
    | zero => simp at hj; omega
    | succ j =>
      have := half_lt hj
      exact ⟨j, by omega, by omega⟩
/-- The end, one item more asked for. -/
theorem SLoop.found {S : List (Int × Int)} {key : Int} {n i k : Nat} {x : Int × Int} (h : SLoop S key n i i k) (hl : S.length = n) (hi : i < n) (hx : S[i]? = some x) : SFound S key n i (decide (x.1 = key)) (k + 1) := by
  refine ⟨by omega, h.1, h.2.1, ?_, fun B hB => ?_, by omega⟩
  · rw [decide_eq_true_eq]
    exact ⟨fun e => ⟨x, hx, e⟩, fun ⟨y, hy, e⟩ => by rw [hx] at hy; injection hy with hy; subst hy; exact e⟩
  · obtain ⟨j, _, hkj⟩ := h.2.2.1 B hB
    omega
theorem SLoop.past {S : List (Int × Int)} {key : Int} {n k : Nat} (h : SLoop S key n n n k) (hl : S.length = n) : SFound S key n n false k := by
  refine ⟨Nat.le_refl _, h.1, h.2.1, ?_, fun B hB => ?_, ?_⟩
  · constructor
    · intro e; cases e
    · rintro ⟨x, hx, _⟩
      rw [List.getElem?_eq_none (by omega)] at hx
      cases hx
  · obtain ⟨j, _, hkj⟩ := h.2.2.1 B hB
    omega
  · have := h.2.2.2.1
    have := h.2.2.2.2.1
    omega


set_option maxHeartbeats 1600000 in
theorem bsearch_ok (A : Option Addr) (n c N g : Nat) (S : List (Int × Int)) (key : Int) (w w0 : World) (hx : Row w 2 A n c (its S)) (ho : Ord S) (hs : n ≤ 1073741824) (hi : SInv w N g 0 w0) :
    Calls Try.prog 16 #[.slice A n c, .int .i64 key, .func (.func 17) #[] #[.pointer (some ⟨g, 0, none⟩)]] w0 fun e w' =>
      ∃ (i : Nat) (is : Bool) (k : Nat), e = .returned (.tuple #[.int .i64 i, .bool is]) ∧ Hid (SFound S key n i is k) ∧ Hid (SInv w N g k w') := by
  have HX := Lib.hid hx
  have HO := Lib.hid ho
  have HI := Lib.hid hi
  have HL := Lib.hid hx.its_len
  clear hx ho hi
  go_enter Try.func16, Try.ntmps16
  go_wp2
  go_loopg [9, 10] n (fun kx s9 s10 wr => ∃ lo hi k : Nat, s9 = .int .i64 lo ∧ s10 = .int .i64 hi ∧ lo ≤ hi ∧ hi ≤ n ∧ hi - lo ≤ kx ∧ k + kx ≤ n ∧ Hid (SLoop S key n lo hi k) ∧ Hid (SInv w N g k wr))
  case atStart => exact ⟨0, n, 0, rfl, rfl, Nat.zero_le _, Nat.le_refl _, by omega, by omega, SLoop.start HL.out, HI.out⟩
  case round =>
    obtain ⟨lo, hi, k, rfl, rfl, hlh, hin, hg, hkn, HS, HW⟩ := hrel
    have HE : Hid (Ext w wr) := by obtain ⟨_, _, h, _⟩ := HW.out; exact h
    by_cases hlt : lo < hi
    · obtain ⟨b, o, x, y, rfl, hxk, hc1, hc2⟩ := (HX.out.ext HE.out).item_at (k := (lo + hi) / 2) (by omega)
      have hask := ask_ok w wr N g k x y key HW.out (by omega)
      by_cases hxk2 : x < key
      · rw [show cmpI x key = -1 by simp [cmpI, hxk2]] at hask
        have HK := Lib.hid hask
        clear hask
        go_wp2_with fail
        refine HK.out.mono ?_
        rintro e w1 ⟨rfl, hw1⟩
        have HW1 := Lib.hid hw1
        clear hw1
        go_wp2
        go_roundg (gk - 1)
        case measure => omega
        case rel =>
          exact ⟨(lo + hi) / 2 + 1, hi, k + 1, by rw [show ((lo : Int) + (hi : Int)) / 2 + 1 = (((lo + hi) / 2 + 1 : Nat) : Int) by omega], rfl, by omega, hin, by omega, by omega, HS.out.right HO.out hlt hxk.out hxk2, HW1.out⟩
      · have h0 : 0 ≤ cmpI x key := by unfold cmpI; split <;> (try split) <;> omega
        have HK := Lib.hid hask
        clear hask
        generalize cmpI x key = cv at HK h0
        go_wp2_with fail
        refine HK.out.mono ?_
        rintro e w1 ⟨rfl, hw1⟩
        have HW1 := Lib.hid hw1
        clear hw1
        go_wp2
        go_roundg (gk - 1)
        case measure => omega
        case rel =>
          exact ⟨lo, (lo + hi) / 2, k + 1, rfl, by rw [show ((lo : Int) + (hi : Int)) / 2 = (((lo + hi) / 2 : Nat) : Int) by omega], by omega, by omega, by omega, by omega, HS.out.left HO.out hlt hxk.out (by simp only; omega), HW1.out⟩
    · obtain rfl : lo = hi := by omega
      by_cases hn : lo < n
      · obtain ⟨b, o, x, y, rfl, hxk, hc1, hc2⟩ := (HX.out.ext HE.out).item_at (k := lo) hn
        have hask := ask_ok w wr N g k x y key HW.out (by omega)
        have HF := Lib.hid (HS.out.found HL.out hn hxk.out)
        have HQ : Hid ((cmpI x key == 0) = decide (x = key)) := Lib.hid (by unfold cmpI; split <;> (try split) <;> simp <;> omega)
        have HK := Lib.hid hask
        clear hask
        generalize cmpI x key = cv at HK HQ
        go_wp2_with fail
        refine HK.out.mono ?_
        rintro e w1 ⟨rfl, hw1⟩
        have HW1 := Lib.hid hw1
        clear hw1
        go_wp2
        go_ret2
        exact ⟨lo, _, k + 1, rfl, by rw [HQ.out]; exact HF.out, HW1.out⟩
      · obtain rfl : lo = n := by omega
        have d1 : decide (lo < lo) = false := by simp
        go_wp2
        go_ret2
        exact ⟨lo, false, k, rfl, HS.out.past HL.out, HW.out⟩

/-- What impl.Search leaves. -/
def SPost (S : List (Int × Int)) (key : Int) (n : Nat) (w : World) (e : Ending) (w' : World) : Prop :=
  ∃ (i : Nat) (is : Bool) (k : Nat) (B : Option Addr) (q : Nat), e = .returned (.agg #[.int .i64 i, .bool is, .slice B k q]) ∧ SFound S key n i is k ∧ Ext w w'

theorem SInv.start (w : World) : SInv w w.heap.size (w.heap.size + 1 + 1) 0 (((w.alloc (.cells #[.int .i64 0, .bool false, .slice none 0 0] 34)).alloc (.cells #[] 3)).alloc (.cells #[.int .i64 0, .bool false, .slice (some ⟨w.heap.size + 1, 0, none⟩) 0 0] 34)) := by
  refine ⟨.slice (some ⟨w.heap.size + 1, 0, none⟩) 0 0, [], (((Ext.refl w).alloc _).alloc _).alloc _, Nat.le_refl _, by omega, by omega, ?_, ?_, ?_⟩
  · have := heap_alloc_new ((w.alloc (.cells #[.int .i64 0, .bool false, .slice none 0 0] 34)).alloc (.cells #[] 3)) (.cells #[.int .i64 0, .bool false, .slice (some ⟨w.heap.size + 1, 0, none⟩) 0 0] 34)
    simpa using this
  · exact blk_ext (((Ext.refl _).alloc _).alloc _) (heap_alloc_new w _)
  · have h := World.ownsRow_made (e := 3) (size := 1) (base := w.heap.size) (w.alloc (.cells #[.int .i64 0, .bool false, .slice none 0 0] 34)) #[] 0 (by simp) (Nat.zero_le _) (by simp)
    have h2 := h.alloc (.cells #[.int .i64 0, .bool false, .slice (some ⟨w.heap.size + 1, 0, none⟩) 0 0] 34)
    simpa using h2

set_option maxHeartbeats 400000 in
theorem search_ok (A : Option Addr) (n c : Nat) (S : List (Int × Int)) (key : Int) (w : World) (hx : Row w 2 A n c (its S)) (ho : Ord S) (hs : n ≤ 1073741824) :
    Calls Try.prog 8 #[.slice A n c, .int .i64 key] w (SPost S key n w) := by
  have HX := Lib.hid hx
  have HO := Lib.hid ho
  clear hx ho
  have hmf : ∀ (fn : Fn) (first cap : Array Value) (w : World), (Instr.makeFunc fn first cap).run Try.prog w = .ok (.func fn first cap) w := fun _ _ _ _ => rfl
  go_enter Try.func8, Try.ntmps8
  go_wp2_with fail
  refine (bsearch_ok _ _ _ w.heap.size (w.heap.size + 1 + 1) S key w _ HX.out HO.out hs (SInv.start w)).mono ?_
  rintro e w1 ⟨i, is, k, rfl, HF, HI⟩
  obtain ⟨v, zs, hext, _, _, _, hb, hbN, hown⟩ := HI.out
  obtain ⟨B, q, rfl, _⟩ := own_form hown
  have c0 : w1.cell? ⟨w.heap.size + 1 + 1, 0, none⟩ = some (.int .i64 0) := by simp [World.cell?, hb]
  have c1 : w1.cell? ⟨w.heap.size + 1 + 1, 1, none⟩ = some (.bool false) := by simp [World.cell?, hb]
  have c2 : w1.cell? ⟨w.heap.size + 1 + 1, 2, none⟩ = some (.slice B k q) := by simp [World.cell?, hb]
  have f0 : w1.frozen? ⟨w.heap.size + 1 + 1, 0, none⟩ = false := by simp [World.frozen?, hb]
  have f1 : w1.frozen? ⟨w.heap.size + 1 + 1, 1, none⟩ = false := by simp [World.frozen?, hb]
  have n0 : w1.cell? ⟨w.heap.size, 0, none⟩ = some (.int .i64 0) := by simp [World.cell?, hbN]
  have n1 : w1.cell? ⟨w.heap.size, 1, none⟩ = some (.bool false) := by simp [World.cell?, hbN]
  have n2 : w1.cell? ⟨w.heap.size, 2, none⟩ = some (.slice none 0 0) := by simp [World.cell?, hbN]
  have g0 : w1.frozen? ⟨w.heap.size, 0, none⟩ = false := by simp [World.frozen?, hbN]
  have g1 : w1.frozen? ⟨w.heap.size, 1, none⟩ = false := by simp [World.frozen?, hbN]
  have g2 : w1.frozen? ⟨w.heap.size, 2, none⟩ = false := by simp [World.frozen?, hbN]
  have HE := Lib.hid hext
  clear hb hbN hown hext
  go_wp2
  refine bodyPost_ret (v := .agg #[.int .i64 i, .bool is, .slice B k q]) ?_ rfl ?_
  · simp [results, Try.results8, go_sem, n0, n1, n2]
  · exact ⟨i, is, k, B, q, rfl, HF.out, ((((HE.out.setCell (by simp; omega) _).setCell (by simp; omega) _).setCell (by simp) _).setCell (by simp) _).setCell (by simp) _⟩
end Go.Proofs.Ytecjkonjgmjppaa
