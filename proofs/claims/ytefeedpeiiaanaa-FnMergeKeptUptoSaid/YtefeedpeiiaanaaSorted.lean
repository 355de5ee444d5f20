/- The contracts of spec.Sorted and laws.sorted: items in their order. No statement of the seat is proved here. -/
import Derived.Test.YtefeedpeiiaanaaApart
import Derived.Test.YtefeedpeiiaanaaSortPlain
import Derived.Deep.LoopGhost
import Derived.Deep.DeepCutAuto
import Derived.Deep.CutBlock
namespace Go.Proofs.Ytefeedpeiiaanaa
open Go.RowKit

theorem pair_get {l : List (Int × Int)} {j : Nat} {x y : Int} (h : (l.map (·.1))[j]? = some x) (h' : (l.map (·.2))[j]? = some y) : l[j]? = some (x, y) := by
  rw [List.getElem?_map] at h h'
  cases e : l[j]? with
  | none => simp [e] at h
  | some z => simp [e] at h h'; obtain ⟨z1, z2⟩ := z; simp_all

def Ahead (S : List (Int × Int)) (z : Int × Int) (t : Nat) : Prop := ∀ j, j < t → ∀ a, S[j]? = some a → leP a z = true
theorem Ahead.snoc {S : List (Int × Int)} {z a : Int × Int} {t : Nat} (h : Ahead S z t) (ha : S[t]? = some a) (hl : leP a z = true) : Ahead S z (t + 1) := by
  intro j hj b hb
  rcases Nat.lt_or_ge j t with h1 | h1
  · exact h j h1 b hb
  · obtain rfl : j = t := by omega
    rw [ha] at hb
    injection hb with hb
    subst hb
    exact hl
theorem insP_ahead {S : List (Int × Int)} {z : Int × Int} {t : Nat} (ht : t ≤ S.length) (h : Ahead S z t) (h2 : ∀ a, S[t]? = some a → leP a z = false) : insP z S = S.take t ++ z :: S.drop t := insP_at ht h h2

theorem ins_parts {S : List (Int × Int)} {z : Int × Int} {t k : Nat} (f : Int × Int → Int) (hl : S.length = k) (h : insP z S = S.take t ++ z :: S.drop t) :
    [(((S.map f).take t).drop 0), [f z], (((S.map f).take k).drop t)].flatten = (insP z S).map f := by
  have e : (S.map f).take k = S.map f := List.take_of_length_le (by simp [hl])
  rw [h, e]
  simp [List.map_take, List.map_drop]
theorem ins_joined {S : List (Int × Int)} {z : Int × Int} {t k : Nat} (f : Int × Int → Int) (hl : S.length = k) (h : insP z S = S.take t ++ z :: S.drop t) :
    [(((S.map f).take (t : Int).toNat).drop (0 : Int).toNat), [f z], (((S.map f).take (k : Int).toNat).drop (t : Int).toNat)].flatten = (insP z S).map f ∧ ((insP z S).map f).length = k + 1 :=
  ⟨ins_parts f hl h, by rw [List.length_map, insP_length, hl]⟩

theorem lists3 {w : World} {A B1 B2 B3 : Option Addr} {m1 m2 m3 d1 d2 d3 : Nat} {l1 l2 l3 : List Int} (h : Row w 1 A 3 3 [.slice B1 m1 d1, .slice B2 m2 d2, .slice B3 m3 d3])
    (h1 : Row w 1 B1 m1 d1 (ints l1)) (h2 : Row w 1 B2 m2 d2 (ints l2)) (h3 : Row w 1 B3 m3 d3 (ints l3)) : Lists w A 3 3 [l1, l2, l3] := by
  refine ⟨_, h, rfl, fun i xs hx => ?_⟩
  match i, hx with
  | 0, hx => simp at hx; subst hx; exact ⟨_, _, _, rfl, h1⟩
  | 1, hx => simp at hx; subst hx; exact ⟨_, _, _, rfl, h2⟩
  | 2, hx => simp at hx; subst hx; exact ⟨_, _, _, rfl, h3⟩
  | i + 3, hx => simp at hx

set_option maxRecDepth 100000 in
set_option maxHeartbeats 3200000 in
theorem sortedKT_ok (A B : Option Addr) (n c d : Nat) (xs ys : List Int) (w : World) (hx : Row w 1 A n c (ints xs)) (hy : Row w 1 B n d (ints ys)) (hs : n ≤ 1099511627776) :
    Calls Try.prog 27 #[.slice A n c, .slice B n d] w fun e w' => ∃ C k D q, e = .returned (.tuple #[.slice C n k, .slice D n q]) ∧ Row w' 1 C n k (ints ((sortP (xs.zip ys)).map (·.1))) ∧ Row w' 1 D n q (ints ((sortP (xs.zip ys)).map (·.2))) ∧ Ext w w' := by
  have HX := Lib.hid hx
  have HY := Lib.hid hy
  clear hx hy
  go_enter Try.func27, Try.ntmps27
  go_wp2
  go_loopg [6, 7, 14] n (fun kx v u i wr => ∃ k C c1 D c2, k + kx = n ∧ i = .int .i64 ((k : Nat) : Int) ∧ v = .slice C k c1 ∧ u = .slice D k c2 ∧ Hid (Row wr 1 C k c1 (ints ((sortP ((xs.zip ys).take k)).map (·.1)))) ∧ Hid (Row wr 1 D k c2 (ints ((sortP ((xs.zip ys).take k)).map (·.2)))) ∧ Hid (Ext w wr))
  case atStart => exact ⟨0, _, _, _, _, by omega, rfl, rfl, rfl, Row.own ((own_lit0 w 3 1).alloc _), Row.own (own_lit1 w 3 1), ((Ext.refl w).alloc _).alloc _⟩
  case round =>
    obtain ⟨k, C, c1, D, c2, hk, rfl, rfl, rfl, HC, HD, HE⟩ := hrel
    by_cases hlt : k < n
    · obtain ⟨b, o, x, rfl, hxk, hcx⟩ := (HX.out.ext HE.out).int_at (k := k) hlt
      obtain ⟨b', o', y, rfl, hyk, hcy⟩ := (HY.out.ext HE.out).int_at (k := k) hlt
      obtain ⟨S, hS⟩ : ∃ S, S = sortP ((xs.zip ys).take k) := ⟨_, rfl⟩
      have HN := Lib.hid (take_snoc (zip_get hxk.out hyk.out))
      rw [← hS] at HC HD
      have HS := Lib.hid hS
      clear hS
      go_upto_block 2 with (fail)
      go_cut [9] (fun s9 wx => ∃ t : Nat, s9 = .int .i64 t ∧ t ≤ k ∧ Hid (insP (x, y) S = S.take t ++ (x, y) :: S.drop t) ∧ Hid (Ext wr wx))
      case first =>
        obtain ⟨wo, rfl⟩ : ∃ wo : World, wo = wr := ⟨_, rfl⟩
        go_wp2
        go_loopg [9] k (fun kx i wr => ∃ t : Nat, t + kx = k ∧ i = .int .i64 (t : Int) ∧ Hid (Ahead S (x, y) t) ∧ Hid (Ext wo wr))
        case atStart => exact ⟨0, by omega, rfl, (fun j hj => absurd hj (Nat.not_lt_zero _) : Ahead S (x, y) 0), Ext.refl _⟩
        case round =>
          obtain ⟨t, ht, rfl, HA, HE2⟩ := hrel
          have hSl : S.length = k := by have := HC.out.ints_len; simpa using this
          have HSL := Lib.hid hSl
          clear hSl
          have hcx2 := HE2.out.cell_some hcx
          have hcy2 := HE2.out.cell_some hcy
          clear hcx hcy
          by_cases htk : t < k
          · obtain ⟨b1, o1, x1, rfl, hx1, hc1⟩ := (HC.out.ext HE2.out).int_at (k := t) htk
            obtain ⟨b2, o2, y1, rfl, hy1, hc2⟩ := (HD.out.ext HE2.out).int_at (k := t) htk
            have HP := Lib.hid (pair_get hx1.out hy1.out)
            by_cases h1 : x1 < x
            · go_wp2
              go_quiet (fail)
              go_wp2
              go_roundg (k - (t + 1))
              case measure => omega
              case rel => exact ⟨t + 1, by omega, by go_num, HA.out.snoc HP.out (by rw [leP_iff]; exact .inl h1), HE2.out.drewN _⟩
            · have d1 : decide (x1 < x) = false := by simpa using h1
              by_cases h2 : x1 = x
              · have d2 : (x1 == x) = true := by simpa using h2
                have H2 := Lib.hid h2
                clear h2
                by_cases h3 : y1 ≤ y
                · go_wp2
                  go_quiet (fail)
                  go_wp2
                  go_roundg (k - (t + 1))
                  case measure => omega
                  case rel => exact ⟨t + 1, by omega, by go_num, HA.out.snoc HP.out (by rw [leP_iff]; exact .inr ⟨H2.out, h3⟩), HE2.out.drewN _⟩
                · have d3 : decide (y1 ≤ y) = false := by simpa using h3
                  go_wp2
                  go_quiet (fail)
                  go_wp2
                  go_meet
                  exact ⟨t, rfl, by omega, insP_ahead (by rw [HSL.out]; omega) HA.out (fun a ha => by rw [HP.out] at ha; injection ha with ha; subst ha; rw [leP_false]; have := H2.out; simp only; omega), HE2.out.drewN _⟩
              · have d2 : (x1 == x) = false := by simpa using h2
                have H2 := Lib.hid h2
                clear h2
                go_wp2
                go_quiet (fail)
                go_wp2
                go_meet
                exact ⟨t, rfl, by omega, insP_ahead (by rw [HSL.out]; omega) HA.out (fun a ha => by rw [HP.out] at ha; injection ha with ha; subst ha; rw [leP_false]; have := H2.out; simp only; omega), HE2.out.drewN _⟩
          · have d1 : decide (t < k) = false := by simpa using htk
            go_wp2
            go_quiet (fail)
            go_wp2
            go_meet
            exact ⟨t, rfl, by omega, insP_ahead (by rw [HSL.out]; omega) HA.out (fun a ha => by rw [List.getElem?_eq_none (by rw [HSL.out]; omega)] at ha; cases ha), HE2.out.drewN _⟩
      case rest =>
        obtain ⟨t, rfl, htk, HI, HE3⟩ := hcut
        have hcxc := HE3.out.cell_some hcx
        have h00 : (0 : Int) ≤ 0 := Int.le_refl _
        have ht0 : (0 : Int) ≤ (t : Int) := by omega
        have hk0 : (0 : Int) ≤ (k : Int) := by omega
        have htk' : (t : Int) ≤ (k : Int) := by omega
        have hkk' : (k : Int) ≤ (k : Int) := by omega
        have hks : k ≤ 1099511627776 := by omega
        have hks1 : k + 1 ≤ 1099511627776 := by omega
        have HSL : Hid (S.length = k) := Lib.hid (by have := HC.out.ints_len; simpa using this)
        have HFL := Lib.hid (ins_joined (z := (x, y)) (t := t) (·.1) HSL.out HI.out)
        have hml1 : 1 ≤ maxLen := by unfold maxLen; omega
        have hml3 : 3 ≤ maxLen := by unfold maxLen; omega
        go_upto_region 8 with (fail)
        go_cut [6] (fun s6 wx => ∃ C' c', s6 = .slice C' (k + 1) c' ∧ Hid (Row wx 1 C' (k + 1) c' (ints ((insP (x, y) S).map (·.1)))) ∧ Hid (Ext wr wx))
        case first =>
          go_region_with (first | (go_at_call 40; (with_reducible refine (part_ok _ _ _ 0 _ (S.map (·.1)) _ ?_ h00 ht0 htk' hks).mono ?_); (· exact HC.out.ext (by repeat (first | exact Ext.refl _ | assumption | refine Ext.drew ?_ | refine Ext.drewN ?_ _ | refine Ext.alloc ?_ _ | refine Ext.trans ?_ (by assumption)))); rintro e wA ⟨CA, mA, kA, rfl, hrA, hxA⟩; have hcA : wA.cell? ⟨b, o + k, none⟩ = some (.int .i64 x) := Ext.cell_some (a := wr) (by repeat (first | exact Ext.refl _ | assumption | refine Ext.drew ?_ | refine Ext.drewN ?_ _ | refine Ext.alloc ?_ _ | refine Ext.trans ?_ (by assumption))) hcx) | (go_at_call 40; (with_reducible refine (part_ok _ _ _ _ _ (S.map (·.1)) _ ?_ ht0 hk0 hkk' hks).mono ?_); (· exact HC.out.ext (by repeat (first | exact Ext.refl _ | assumption | refine Ext.drew ?_ | refine Ext.drewN ?_ _ | refine Ext.alloc ?_ _ | refine Ext.trans ?_ (by assumption)))); rintro e wB ⟨CB, mB, kB, rfl, hrB, hxB⟩; have hcB : wB.cell? ⟨b, o + k, none⟩ = some (.int .i64 x) := Ext.cell_some (a := wr) (by repeat (first | exact Ext.refl _ | assumption | refine Ext.drew ?_ | refine Ext.drewN ?_ _ | refine Ext.alloc ?_ _ | refine Ext.trans ?_ (by assumption))) hcx) | (go_at_call 39; (refine (joined_to _ _ _ [(((S.map (·.1)).take (t : Int).toNat).drop (0 : Int).toNat), [x], (((S.map (·.1)).take (k : Int).toNat).drop (t : Int).toNat)] (k + 1) ((insP (x, y) S).map (·.1)) HFL.out _ ?_ hks1).mono ?_); (· exact lists3 (by (repeat (first | (with_reducible refine Row.drew ?_) | (refine Row.fresh' _ _ _ #[_, _, _] _ _ ?_ rfl hml3; (simp; done)) | (with_reducible refine Row.alloc ?_ _) | (with_reducible refine Row.ext ?_ (by assumption))))) (hrA.ext (by repeat (first | exact Ext.refl _ | assumption | refine Ext.drew ?_ | refine Ext.drewN ?_ _ | refine Ext.alloc ?_ _ | refine Ext.trans ?_ (by assumption)))) (by (repeat (first | (with_reducible refine Row.drew ?_) | (refine Row.fresh' _ _ _ #[_] _ _ ?_ rfl hml1; (simp; done)) | (with_reducible refine Row.alloc ?_ _) | (with_reducible refine Row.ext ?_ (by assumption))))) (hrB.ext (by repeat (first | exact Ext.refl _ | assumption | refine Ext.drew ?_ | refine Ext.drewN ?_ _ | refine Ext.alloc ?_ _ | refine Ext.trans ?_ (by assumption))))); rintro e wC ⟨CC, kC, rfl, hrC, hxC⟩))
          all_goals
            go_wp2_with fail
            go_meet
            exact ⟨CC, kC, rfl, hrC, (by repeat (first | exact Ext.refl _ | assumption | refine Ext.drew ?_ | refine Ext.drewN ?_ _ | refine Ext.alloc ?_ _ | refine Ext.trans ?_ (by assumption)))⟩
        case rest =>
          obtain ⟨C', c', rfl, HC', HE4⟩ := hcut
          have hcyc := HE4.out.cell_some hcy
          clear hcxc
          have HFL2 := Lib.hid (ins_joined (z := (x, y)) (t := t) (·.2) HSL.out HI.out)
          go_upto_region 9 with (fail)
          go_region_with (first | (go_at_call 40; (with_reducible refine (part_ok _ _ _ 0 _ (S.map (·.2)) _ ?_ h00 ht0 htk' hks).mono ?_); (· exact HD.out.ext (by repeat (first | exact Ext.refl _ | assumption | refine Ext.drew ?_ | refine Ext.drewN ?_ _ | refine Ext.alloc ?_ _ | refine Ext.trans ?_ (by assumption)))); rintro e wA ⟨CA, mA, kA, rfl, hrA, hxA⟩; have hcA : wA.cell? ⟨b', o' + k, none⟩ = some (.int .i64 y) := Ext.cell_some (a := wr) (by repeat (first | exact Ext.refl _ | assumption | refine Ext.drew ?_ | refine Ext.drewN ?_ _ | refine Ext.alloc ?_ _ | refine Ext.trans ?_ (by assumption))) hcy) | (go_at_call 40; (with_reducible refine (part_ok _ _ _ _ _ (S.map (·.2)) _ ?_ ht0 hk0 hkk' hks).mono ?_); (· exact HD.out.ext (by repeat (first | exact Ext.refl _ | assumption | refine Ext.drew ?_ | refine Ext.drewN ?_ _ | refine Ext.alloc ?_ _ | refine Ext.trans ?_ (by assumption)))); rintro e wB ⟨CB, mB, kB, rfl, hrB, hxB⟩; have hcB : wB.cell? ⟨b', o' + k, none⟩ = some (.int .i64 y) := Ext.cell_some (a := wr) (by repeat (first | exact Ext.refl _ | assumption | refine Ext.drew ?_ | refine Ext.drewN ?_ _ | refine Ext.alloc ?_ _ | refine Ext.trans ?_ (by assumption))) hcy) | (go_at_call 39; (refine (joined_to _ _ _ [(((S.map (·.2)).take (t : Int).toNat).drop (0 : Int).toNat), [y], (((S.map (·.2)).take (k : Int).toNat).drop (t : Int).toNat)] (k + 1) ((insP (x, y) S).map (·.2)) HFL2.out _ ?_ hks1).mono ?_); (· exact lists3 (by (repeat (first | (with_reducible refine Row.drew ?_) | (refine Row.fresh' _ _ _ #[_, _, _] _ _ ?_ rfl hml3; (simp; done)) | (with_reducible refine Row.alloc ?_ _) | (with_reducible refine Row.ext ?_ (by assumption))))) (hrA.ext (by repeat (first | exact Ext.refl _ | assumption | refine Ext.drew ?_ | refine Ext.drewN ?_ _ | refine Ext.alloc ?_ _ | refine Ext.trans ?_ (by assumption)))) (by (repeat (first | (with_reducible refine Row.drew ?_) | (refine Row.fresh' _ _ _ #[_] _ _ ?_ rfl hml1; (simp; done)) | (with_reducible refine Row.alloc ?_ _) | (with_reducible refine Row.ext ?_ (by assumption))))) (hrB.ext (by repeat (first | exact Ext.refl _ | assumption | refine Ext.drew ?_ | refine Ext.drewN ?_ _ | refine Ext.alloc ?_ _ | refine Ext.trans ?_ (by assumption))))); rintro e wC ⟨CC, kC, rfl, hrC, hxC⟩))
          all_goals
            go_wp2
            go_roundg (n - (k + 1))
            case measure => omega
            case rel =>
              refine ⟨k + 1, C', c', CC, kC, by omega, by go_num, rfl, rfl, ?_, ?_, HE.out.trans (by repeat (first | exact Ext.refl _ | assumption | refine Ext.drew ?_ | refine Ext.drewN ?_ _ | refine Ext.alloc ?_ _ | refine Ext.trans ?_ (by assumption)))⟩
              · rw [HN.out, sortP_snoc, ← HS.out]
                exact HC'.out.ext (by repeat (first | exact Ext.refl _ | assumption | refine Ext.drew ?_ | refine Ext.drewN ?_ _ | refine Ext.alloc ?_ _ | refine Ext.trans ?_ (by assumption)))
              · rw [HN.out, sortP_snoc, ← HS.out]
                exact hrC
    · go_wp2
      go_ret2
      obtain rfl : k = n := by omega
      have e : (xs.zip ys).take k = xs.zip ys := List.take_of_length_le (by rw [List.length_zip, HX.out.ints_len, HY.out.ints_len]; omega)
      rw [e] at HC HD
      exact ⟨C, c1, D, c2, rfl, HC.out, HD.out, HE.out⟩
end Go.Proofs.Ytefeedpeiiaanaa
