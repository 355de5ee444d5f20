/- The contract of slices.Compact at int: of equal numbers that follow one another the first alone is left in the row. No statement of the seat is proved here. -/
import Derived.Test.YtaimljagflnfpaaReplaceInt
import Derived.Test.YtaimljagflnfpaaEditPlain
import Derived.Deep.LoopGhost
namespace Go.Proofs.Ytaimljagflnfpaa
open Go.RowKit

theorem compO_take {l : List Int} {p : Nat} {x y : Int} (hx : l[p]? = some x) (hy : l[p - 1]? = some y) (hp : 0 < p) : compO none (l.take (p + 1)) = compO none (l.take p) ++ (if x = y then [] else [x]) := by
  have h1 : (l.take p).length = p - 1 + 1 := by
    have := (List.getElem?_eq_some_iff.1 hx).1
    rw [List.length_take]; omega
  rw [take_snoc hx, compO_snoc, lastO_get none h1, List.getElem?_take_of_lt (by omega), hy]
  by_cases h : x = y
  · rw [if_pos (by rw [h]), if_pos h]
  · rw [if_neg (fun e => h (by injection e with e; exact e.symm)), if_neg h]
/-- A row of which the first p numbers have been compacted to its head. -/
def halfC (l : List Int) (p : Nat) : List Int := compO none (l.take p) ++ l.drop (compO none (l.take p)).length
theorem halfC_length (l : List Int) (p : Nat) : (halfC l p).length = l.length := by
  have h1 := compO_length none (l.take p)
  have h2 : (l.take p).length ≤ l.length := by rw [List.length_take]; omega
  rw [halfC, List.length_append, List.length_drop]; omega
theorem halfC_get (l : List Int) (p q : Nat) (h : (compO none (l.take p)).length ≤ q) : (halfC l p)[q]? = l[q]? := by
  rw [halfC, List.getElem?_append_right h, List.getElem?_drop]
  congr 1; omega
theorem halfC_skip {l : List Int} {p : Nat} {x : Int} (hx : l[p]? = some x) (hy : l[p - 1]? = some x) (hp : 0 < p) : compO none (l.take (p + 1)) = compO none (l.take p) ∧ halfC l (p + 1) = halfC l p := by
  have h := compO_take hx hy hp
  rw [if_pos rfl, List.append_nil] at h
  exact ⟨h, by unfold halfC; rw [h]⟩
theorem halfC_put {l : List Int} {p : Nat} {x y : Int} (hx : l[p]? = some x) (hy : l[p - 1]? = some y) (hp : 0 < p) (hne : ¬ x = y) : (compO none (l.take (p + 1))).length = (compO none (l.take p)).length + 1 ∧ halfC l (p + 1) = (halfC l p).set (compO none (l.take p)).length x := by
  have h := compO_take hx hy hp
  rw [if_neg hne] at h
  have hl : (compO none (l.take (p + 1))).length = (compO none (l.take p)).length + 1 := by rw [h]; simp
  refine ⟨hl, ?_⟩
  have hb := compO_length none (l.take p)
  have hpl := (List.getElem?_eq_some_iff.1 hx).1
  rw [List.length_take] at hb
  unfold halfC
  rw [hl, h, List.set_append_right _ _ (Nat.le_refl _), Nat.sub_self, List.append_assoc]
  congr 1
  rw [List.drop_eq_getElem_cons (by omega : (compO none (l.take p)).length < l.length)]
  rfl

theorem compO_one (l : List Int) : compO none (l.take 1) = l.take 1 := by
  cases l with
  | nil => rfl
  | cons x r => simp [compO]
theorem blk_put {w : World} {g r : Nat} {h : List Int} {tl : List Value} {x : Int} (hb : Blk w g 3 (ints h ++ tl)) (hr : r < h.length) : Blk (w.setCell ⟨g, r, none⟩ (.int .i64 x)) g 3 (ints (h.set r x) ++ tl) := by
  have := blk_set (w := w) hb r (.int .i64 x)
  unfold Blk
  rw [this]
  congr 2
  apply Array.ext'
  rw [Array.toList_setIfInBounds, List.set_append_left _ _ (by rw [ints_length]; exact hr)]
  unfold ints
  rw [List.map_set]
theorem grown_setCell (w : World) (p : Addr) (u : Value) : w.grownBy (w.setCell p u) (some p.block) :=
  ⟨rfl, rfl, rfl, by simp [World.setCell], fun k _ hk => Below.heap_setCell w p u k (fun e => hk (by rw [e]))⟩

set_option maxRecDepth 100000 in
set_option maxHeartbeats 1600000 in
theorem compact_few (w : World) (base : Nat) (v : Value) (n : Nat) (l : List Int) (hown : w.ownsRow base 3 1 v n (ints l)) (hn : n < 2) :
    Calls Try.prog 31 #[v] w (EditedInt w base v n (ints l) True) := by
  obtain ⟨A, c, rfl, hr⟩ := own_form hown
  have HOWN := Lib.hid hown
  clear hown hr
  have hn1 : (n : Int) < 2 := by omega
  go_enter Try.func31, Try.ntmps31
  go_wp2
  go_ret
  exact ⟨_, rfl, HOWN.out, World.grownBy.refl w _, .inl rfl, fun _ => rfl⟩

set_option maxRecDepth 100000 in
set_option maxHeartbeats 1600000 in
theorem compact_many (w : World) (base : Nat) (g n c : Nat) (l : List Int) (cur : List Value) (hbg : base ≤ g) (hblk : Blk w g 3 cur) (hnc : n ≤ c) (hcm : c ≤ maxLen) (hlen : cur.length = c) (htake : cur.take n = ints l) (hn : 2 ≤ n) :
    Calls Try.prog 31 #[.slice (some ⟨g, 0, none⟩) n c] w (EditedInt w base (.slice (some ⟨g, 0, none⟩) n c) (compO none l).length (ints (compO none l)) True) := by
  have hl : l.length = n := by
    have := congrArg List.length htake
    rw [List.length_take, ints_length] at this; omega
  obtain ⟨tl, htl⟩ : ∃ tl, cur = ints l ++ tl := ⟨cur.drop n, by rw [← htake, List.take_append_drop]⟩
  subst htl
  have HB := Lib.hid hblk
  have HL := Lib.hid hl
  have HLN := Lib.hid hlen
  clear hblk hl hlen htake
  have hcm' := hcm
  unfold maxLen at hcm'
  have hn1 : ¬ (n : Int) < 2 := by omega
  go_enter Try.func31, Try.ntmps31
  go_wp2
  go_loopg [3] (n - 1) (fun kx i wr => ∃ k : Nat, k + kx = n ∧ 1 ≤ k ∧ i = .int .i64 (k : Int) ∧ Hid (compO none (l.take k) = l.take k) ∧ Hid (Ext w wr))
  case atStart => exact ⟨1, by omega, Nat.le_refl _, rfl, compO_one l, Ext.refl _⟩
  case round =>
    obtain ⟨k, hk, hk1, rfl, HC, HE⟩ := hrel
    by_cases hlt : k < n
    · obtain ⟨x, hx⟩ : ∃ x, l[k]? = some x := ⟨_, List.getElem?_eq_getElem (by rw [HL.out]; exact hlt)⟩
      obtain ⟨y, hy⟩ : ∃ y, l[k - 1]? = some y := ⟨_, List.getElem?_eq_getElem (by rw [HL.out]; omega)⟩
      have hc1 : wr.cell? ⟨g, k, none⟩ = some (.int .i64 x) := by
        rw [(HB.out.ext HE.out).cell, List.getElem?_append_left (by rw [ints_length, HL.out]; exact hlt), ints_get, hx]; rfl
      have hc2 : wr.cell? ⟨g, k - 1, none⟩ = some (.int .i64 y) := by
        rw [(HB.out.ext HE.out).cell, List.getElem?_append_left (by rw [ints_length, HL.out]; omega), ints_get, hy]; rfl
      have HX := Lib.hid hx
      have HY := Lib.hid hy
      clear hx hy
      have sw : IntKind.i64.wrap ((k : Int) - 1) = (k : Int) - 1 := IntWalk.i64_in _ (by omega)
      have sn : (0 : Int) ≤ (k : Int) - 1 := by omega
      have sl : (k : Int) - 1 < (n : Int) := by omega
      have st : ((k : Int) - 1).toNat = k - 1 := by omega
      have sm : k - 1 < n := by omega
      have hltI : (k : Int) < (n : Int) := by omega
      by_cases hxy : x = y
      · obtain rfl := hxy
        go_wp2
        go_quiet (fail)
        clear sw sn sl st sm hc1 hc2 hltI
        have hE1 : Ext w (wr.drewN nq) := HE.out.drewN _
        generalize wr.drewN nq = W1 at hE1 ⊢
        have hck := (halfC_skip HX.out HY.out hk1).1
        rw [HC.out] at hck
        have hckl : (compO none (l.take (k + 1))).length = k := by rw [hck, List.length_take, HL.out]; omega
        have hch : halfC l (k + 1) = l := by unfold halfC; rw [hckl, hck, List.take_append_drop]
        have HCK := Lib.hid hckl
        have HCH := Lib.hid hch
        have HB1 := Lib.hid (HB.out.ext hE1)
        have HG1 : Hid (w.grownBy W1 (some g)) := Lib.hid (grown_of_ext hE1 _)
        clear hck hckl hch hE1
        have hkc : ¬ c = k := by omega
        go_wp2
        go_loopg [3, 5] (n - k - 1) (fun ky a b wq => ∃ q r : Nat, k + q + ky = n ∧ 1 ≤ q ∧ a = .int .i64 (r : Int) ∧ b = .int .i64 (q : Int) ∧ r < k + q ∧ Hid (r = (compO none (l.take (k + q))).length) ∧ Hid (Blk wq g 3 (ints (halfC l (k + q)) ++ tl)) ∧ Hid (w.grownBy wq (some g)))
        case atStart => exact ⟨1, k, by omega, Nat.le_refl _, rfl, rfl, by omega, HCK.out.symm, by rw [HCH.out]; exact HB1.out, HG1.out⟩
        case round =>
          obtain ⟨q, r, hq, hq1, rfl, rfl, hrq, HR, HBQ, HGQ⟩ := hrel
          by_cases hqt : q < n - k
          · obtain ⟨x1, hx1⟩ : ∃ x1, l[k + q]? = some x1 := ⟨_, List.getElem?_eq_getElem (by rw [HL.out]; omega)⟩
            obtain ⟨y1, hy1⟩ : ∃ y1, l[k + q - 1]? = some y1 := ⟨_, List.getElem?_eq_getElem (by rw [HL.out]; omega)⟩
            have hc1 : wr.cell? ⟨g, k + q, none⟩ = some (.int .i64 x1) := by
              rw [HBQ.out.cell, List.getElem?_append_left (by rw [ints_length, halfC_length, HL.out]; omega), ints_get, halfC_get _ _ _ (by rw [← HR.out]; omega), hx1]; rfl
            have hc2 : wr.cell? ⟨g, k + (q - 1), none⟩ = some (.int .i64 y1) := by
              rw [show k + (q - 1) = k + q - 1 by omega, HBQ.out.cell, List.getElem?_append_left (by rw [ints_length, halfC_length, HL.out]; omega), ints_get, halfC_get _ _ _ (by rw [← HR.out]; omega), hy1]; rfl
            have HX1 := Lib.hid hx1
            have HY1 := Lib.hid hy1
            clear hx1 hy1
            have sw : IntKind.i64.wrap ((q : Int) - 1) = (q : Int) - 1 := IntWalk.i64_in _ (by omega)
            have sn : (0 : Int) ≤ (q : Int) - 1 := by omega
            have sl : (q : Int) - 1 < ((n - k : Nat) : Int) := by omega
            have st : ((q : Int) - 1).toNat = q - 1 := by omega
            have sm : q - 1 < n - k := by omega
            have hqtI : (q : Int) < ((n - k : Nat) : Int) := by omega
            by_cases hxy1 : x1 = y1
            · obtain rfl := hxy1
              go_wp2
              go_quiet (fail)
              clear sw sn sl st sm hc1 hc2
              go_wp2
              go_roundg (gk - 1)
              case measure => omega
              case rel =>
                have hs := halfC_skip HX1.out HY1.out (by omega)
                refine ⟨q + 1, r, by omega, by omega, rfl, by go_num, by omega, ?_, ?_, grown_trans HGQ.out (grown_of_ext ((Ext.refl _).drewN _) _)⟩
                · rw [show k + (q + 1) = k + q + 1 by omega, hs.1]; exact HR.out
                · rw [show k + (q + 1) = k + q + 1 by omega, hs.2]; exact HBQ.out.ext ((Ext.refl _).drewN _)
            · have hb : (x1 == y1) = false := by simpa using hxy1
              have hb2 : (x1 != y1) = true := by simpa using hxy1
              go_wp2
              go_quiet (fail)
              clear sw sn sl st sm hc2
              have hfz : wr.frozen? ⟨g, r, none⟩ = false := HBQ.out.frozen r
              obtain ⟨u0, hu0⟩ : ∃ u0, wr.cell? ⟨g, r, none⟩ = some u0 := ⟨_, (HBQ.out.cell r).trans (List.getElem?_eq_getElem (by rw [List.length_append, ints_length, halfC_length, HL.out]; omega))⟩
              have hrn : r < n := by omega
              go_wp2
              go_roundg (gk - 1)
              case measure => omega
              case rel =>
                have hs := halfC_put HX1.out HY1.out (by omega) hxy1
                refine ⟨q + 1, r + 1, by omega, by omega, by go_num, by go_num, by omega, ?_, ?_, ?_⟩
                · exact Lib.hid (by rw [show k + (q + 1) = k + q + 1 by omega, hs.1, ← HR.out])
                · rw [show k + (q + 1) = k + q + 1 by omega, hs.2, ← HR.out]
                  exact blk_put (HBQ.out.ext ((Ext.refl _).drewN _)) (by rw [halfC_length, HL.out]; exact hrn)
                · exact grown_trans (grown_trans HGQ.out (grown_of_ext ((Ext.refl _).drewN _) _)) (grown_setCell _ _ _)
          · have hqe : q = n - k := by omega
            have HQE := Lib.hid hqe
            clear hqe
            have hrn : r < n := by omega
            have hqc : ¬ (q : Int) < ((n - k : Nat) : Int) := by omega
            have hcr : ¬ c = r := by omega
            have hrc : r ≤ c := by omega
            have hl2 : (ints (halfC l (k + q)) ++ tl).length = c := by have := HLN.out; rw [List.length_append, ints_length] at this ⊢; rw [halfC_length]; exact this
            have HL2 := Lib.hid hl2
            clear hl2
            have hcl := clr1 wr 0 g r _ HBQ.out (some ⟨g, r, none⟩) (n - r) (c - r) (fun _ => rfl) (by rw [HL2.out]; omega)
            have HB3 := Lib.hid (HBQ.out.set (splice (ints (halfC l (k + q)) ++ tl) r (zeros (.int .i64 0) (n - r))))
            have HG3 := Lib.hid (grown_trans HGQ.out (grown_setRow wr g (splice (ints (halfC l (k + q)) ++ tl) r (zeros (.int .i64 0) (n - r))).toArray))
            go_wp2
            go_ret
            have hfin := own_mk1 (base := base) (n := r) (c := c) hbg HB3.out hrc hcm (by rw [length_splice _ _ _ (by rw [zerosInt_length, HL2.out]; omega)]; exact HL2.out)
            have hkq : l.take (k + q) = l := List.take_of_length_le (by rw [HL.out, HQE.out]; omega)
            have hr := HR.out
            rw [hkq] at hr
            have e1 : (splice (ints (halfC l (k + q)) ++ tl) r (zeros (.int .i64 0) (n - r))).take r = ints (compO none l) := by
              rw [take_splice _ _ _ (by rw [HL2.out]; exact hrc), List.take_append_of_le_length (by rw [ints_length, halfC_length, HL.out]; omega)]
              unfold halfC ints
              rw [hkq, List.map_append, List.take_append_of_le_length (by rw [List.length_map]; omega), List.take_of_length_le (by rw [List.length_map]; omega)]
            rw [e1] at hfin
            refine ⟨_, rfl, ?_, HG3.out, .inl rfl, fun _ => rfl⟩
            rw [← hr]
            exact hfin
      · have hb : (x == y) = false := by simpa using hxy
        go_wp2
        go_quiet (fail)
        clear sw sn sl st sm hc1 hc2
        go_wp2
        go_roundg (gk - 1)
        case measure => omega
        case rel =>
          have hs := compO_take HX.out HY.out hk1
          rw [if_neg hxy, HC.out, ← take_snoc HX.out] at hs
          exact ⟨k + 1, by omega, by omega, by go_num, hs, HE.out.drewN _⟩
    · obtain rfl : k = n := by omega
      have e1 : l.take k = l := List.take_of_length_le (by rw [HL.out]; exact Nat.le_refl _)
      rw [e1] at HC
      go_wp2
      go_ret
      have hfin := own_mk1 (base := base) (n := k) (c := c) hbg (HB.out.ext HE.out) hnc hcm HLN.out
      rw [List.take_left' (by rw [ints_length, HL.out])] at hfin
      refine ⟨_, rfl, ?_, grown_of_ext HE.out _, .inl rfl, fun _ => rfl⟩
      rw [HC.out, HL.out]
      exact hfin

theorem compO_few (l : List Int) (h : l.length < 2) : compO none l = l := by
  rcases l with _ | ⟨x, _ | ⟨y, r⟩⟩
  · rfl
  · simp [compO]
  · simp at h; omega
theorem compactInt_ok (w : World) (base : Nat) (v : Value) (n : Nat) (l : List Int) (hown : w.ownsRow base 3 1 v n (ints l)) :
    Calls Try.prog 31 #[v] w (EditedInt w base v (compO none l).length (ints (compO none l)) True) := by
  have hl : l.length = n := by have := own_len1 hown; rw [ints_length] at this; exact this
  by_cases hn : n < 2
  · rw [compO_few l (by omega), hl]
    exact compact_few w base v n l hown hn
  · rcases own_cases1 hown with ⟨rfl, rfl, h0⟩ | ⟨g, c, cur, rfl, hbg, hblk, hnc, hcm, hlen, htake⟩
    · omega
    · exact compact_many w base g n c l cur hbg hblk hnc hcm hlen htake (by omega)
end Go.Proofs.Ytaimljagflnfpaa
