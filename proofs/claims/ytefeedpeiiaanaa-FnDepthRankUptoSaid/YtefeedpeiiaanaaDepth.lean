/- Plain: how many nodes lie above and below; the contract of laws.depth. No statement of the seat is proved here. -/
import Derived.Test.YtefeedpeiiaanaaFnQueueKept
namespace Go.Proofs.Ytefeedpeiiaanaa
open Go.RowKit

/-- How many of the first k have p. -/
def cnt (p : Nat → Bool) : Nat → Nat
  | 0 => 0
  | k + 1 => cnt p k + if p k then 1 else 0
theorem cnt_le (p : Nat → Bool) (k : Nat) : cnt p k ≤ k := by
  induction k with
  | zero => exact Nat.le_refl _
  | succ k ih => unfold cnt; split <;> omega
theorem cnt_mono {p q : Nat → Bool} {k : Nat} (h : ∀ j, j < k → p j = true → q j = true) : cnt p k ≤ cnt q k := by
  induction k with
  | zero => exact Nat.le_refl _
  | succ k ih =>
    have ih' := ih fun j hj => h j (by omega)
    have hk := h k (by omega)
    unfold cnt
    cases hp : p k with
    | false => simp; omega
    | true => rw [hk hp]; simp; omega
theorem cnt_ins {p q : Nat → Bool} {k a : Nat} (ha : a < k) (h0 : p a = false) (h1 : q a = true) (h : ∀ j, j ≠ a → p j = q j) : cnt q k = cnt p k + 1 := by
  induction k with
  | zero => omega
  | succ k ih =>
    unfold cnt
    by_cases hk : a = k
    · subst hk
      have e : cnt q a = cnt p a := Nat.le_antisymm (cnt_mono fun j hj hq => by rw [h j (by omega)]; exact hq) (cnt_mono fun j hj hq => by rw [← h j (by omega)]; exact hq)
      rw [h0, h1, e]; simp
    · rw [ih (by omega), h k (Ne.symm hk)]; omega

/-- From a node up, as long as it is behind i. -/
def upTo : Nat → Nat → Nat → Nat
  | 0, u, _ => u
  | f + 1, u, i => if i < u then upTo f ((u - 1) / 2) i else u
def upF (u i : Nat) : Nat := upTo (u + 1) u i
theorem upTo_fuel : ∀ (f g u i : Nat), u < f → u < g → upTo f u i = upTo g u i
  | 0, _, _, _, h, _ => by omega
  | _, 0, _, _, _, h => by omega
  | f + 1, g + 1, u, i, hf, hg => by
    unfold upTo
    split
    · exact upTo_fuel f g _ i (by omega) (by omega)
    · rfl
theorem upF_step {u i : Nat} (h : i < u) : upF u i = upF ((u - 1) / 2) i := by
  unfold upF
  conv => lhs; unfold upTo
  rw [if_pos h]
  exact upTo_fuel _ _ _ _ (by omega) (by omega)
theorem upF_stop {u i : Nat} (h : ¬ i < u) : upF u i = u := by
  unfold upF upTo
  rw [if_neg h]
theorem upF_le (i : Nat) : ∀ u, upF u i ≤ u := by
  intro u
  induction u using Nat.strongRecOn with
  | _ u ih =>
    by_cases h : i < u
    · rw [upF_step h]; have := ih ((u - 1) / 2) (by omega); omega
    · rw [upF_stop h]; exact Nat.le_refl _
/-- How many nodes lie above. -/
def depF : Nat → Nat → Nat
  | 0, _ => 0
  | f + 1, i => if 0 < i then depF f ((i - 1) / 2) + 1 else 0
def dep (i : Nat) : Nat := depF (i + 1) i
theorem depF_fuel : ∀ (f g i : Nat), i < f → i < g → depF f i = depF g i
  | 0, _, _, h, _ => by omega
  | _, 0, _, _, h => by omega
  | f + 1, g + 1, i, hf, hg => by
    unfold depF
    split
    · rw [depF_fuel f g _ (by omega) (by omega)]
    · rfl
theorem dep_step {i : Nat} (h : 0 < i) : dep i = dep ((i - 1) / 2) + 1 := by
  unfold dep
  conv => lhs; unfold depF
  rw [if_pos h, depF_fuel i ((i - 1) / 2 + 1) _ (by omega) (by omega)]
theorem dep_zero : dep 0 = 0 := rfl
theorem dep_le : ∀ i, dep i ≤ i := by
  intro i
  induction i using Nat.strongRecOn with
  | _ i ih =>
    by_cases h : 0 < i
    · rw [dep_step h]; have := ih ((i - 1) / 2) (by omega); omega
    · obtain rfl : i = 0 := by omega
      exact Nat.le_refl _

theorem leP_t {a b c d : Int} (h : a < c ∨ (a = c ∧ b ≤ d)) : leP (a, b) (c, d) = true := (leP_iff _ _).2 h
theorem leP_f {a b c d : Int} (h : c < a ∨ (a = c ∧ d < b)) : leP (a, b) (c, d) = false := by
  rw [leP_false]
  intro h2
  rcases h with h | h <;> rcases h2 with h2 | h2 <;> (simp only at h2; omega)
def pA (M : List (Int × Int)) (i k : Nat) : Bool := decide (k ≠ i) && leP (at0 M k) (at0 M i)
def pB (M : List (Int × Int)) (i k : Nat) : Bool := decide (k ≠ i) && leP (at0 M i) (at0 M k)
def pN (i k : Nat) : Bool := decide (k ≠ i) && decide (upF k i = i)
/-- j lies above i. -/
def anc (i j : Nat) : Bool := decide (j ≠ i) && decide (upF i j = j)
theorem heap_up {M : List (Int × Int)} (h : Heap M) (i : Nat) : ∀ k, k < M.length → upF k i = i → leP (at0 M i) (at0 M k) = true := by
  intro k
  induction k using Nat.strongRecOn with
  | _ k ih =>
    intro hk hu
    by_cases hi : i < k
    · rw [upF_step hi] at hu
      exact leP_trans (ih ((k - 1) / 2) (by omega) (by omega) hu) (h k (by omega) hk (Nat.zero_le _))
    · rw [upF_stop hi] at hu
      subst hu
      exact leP_refl _
theorem anc_cnt : ∀ i n, i < n → dep i ≤ cnt (anc i) n := by
  intro i
  induction i using Nat.strongRecOn with
  | _ i ih =>
    intro n hn
    by_cases h0 : 0 < i
    · rw [dep_step h0]
      have h1 := ih ((i - 1) / 2) (by omega) n (by omega)
      have hp : (i - 1) / 2 < i := by omega
      have h2 : cnt (fun j => if j = (i - 1) / 2 then true else anc ((i - 1) / 2) j) n = cnt (anc ((i - 1) / 2)) n + 1 := by
        refine cnt_ins (a := (i - 1) / 2) (by omega) (by simp [anc]) (by simp) fun j hj => by simp [hj]
      have h3 : cnt (fun j => if j = (i - 1) / 2 then true else anc ((i - 1) / 2) j) n ≤ cnt (anc i) n := by
        refine cnt_mono fun j _ hj => ?_
        by_cases hjp : j = (i - 1) / 2
        · subst hjp
          simp only [anc, Bool.and_eq_true, decide_eq_true_eq]
          refine ⟨by omega, ?_⟩
          rw [upF_step hp, upF_stop (by omega)]
        · simp only [hjp, if_false, anc, Bool.and_eq_true, decide_eq_true_eq] at hj ⊢
          have hle := upF_le j ((i - 1) / 2)
          rw [hj.2] at hle
          exact ⟨by omega, by rw [upF_step (by omega)]; exact hj.2⟩
      omega
    · obtain rfl : i = 0 := by omega
      rw [dep_zero]; exact Nat.zero_le _
theorem above_ok {M : List (Int × Int)} (h : Heap M) {i : Nat} (hi : i < M.length) : dep i ≤ cnt (pA M i) M.length := by
  refine Nat.le_trans (anc_cnt i _ hi) (cnt_mono fun j hj ha => ?_)
  simp only [anc, Bool.and_eq_true, decide_eq_true_eq] at ha
  simp only [pA, Bool.and_eq_true, decide_eq_true_eq]
  exact ⟨ha.1, heap_up h j i hi ha.2⟩
theorem below_ok {M : List (Int × Int)} (h : Heap M) (i : Nat) : cnt (pN i) M.length ≤ cnt (pB M i) M.length := by
  refine cnt_mono fun j hj ha => ?_
  simp only [pN, Bool.and_eq_true, decide_eq_true_eq] at ha
  simp only [pB, Bool.and_eq_true, decide_eq_true_eq]
  exact ⟨ha.1, heap_up h i j hj ha.2⟩

set_option maxHeartbeats 800000 in
theorem depth_ok (i : Nat) (w : World) (hi : i ≤ 9223372036854775806) : Calls Try.prog 18 #[.int .i64 (i : Int)] w fun e w' => e = .returned (.int .i64 (dep i : Int)) ∧ w = w' := by
  obtain ⟨D, hD⟩ : ∃ D, dep i = D := ⟨_, rfl⟩
  rw [hD]
  have hDi : D ≤ i := by rw [← hD]; exact dep_le i
  have HD := Lib.hid hD
  clear hD
  go_enter Try.func18, Try.ntmps18
  go_wp2
  go_loopg [0, 3] i (fun kx s t wr => ∃ j d : Nat, s = .int .i64 (j : Int) ∧ t = .int .i64 (d : Int) ∧ j ≤ kx ∧ j ≤ i ∧ d ≤ i ∧ Hid (dep j + d = D) ∧ wr = w)
  case atStart => exact ⟨i, 0, rfl, rfl, Nat.le_refl _, Nat.le_refl _, by omega, by unfold Hid; rw [HD.out]; omega, rfl⟩
  case round =>
    obtain ⟨j, d, rfl, rfl, hjk, hji, hdi, HDD, rfl⟩ := hrel
    by_cases hj : 0 < j
    · have hq : ((j : Int) - 1) / 2 = (((j - 1) / 2 : Nat) : Int) := by omega
      have hq2 : ((j : Int) - 1).tdiv 2 = (((j - 1) / 2 : Nat) : Int) := by rw [Int.tdiv_eq_ediv_of_nonneg (by omega)]; exact hq
      have hd : d < i := by have h := HDD.out; rw [dep_step hj] at h; omega
      have HN : Hid (dep ((j - 1) / 2) + (d + 1) = D) := by have h := HDD.out; rw [dep_step hj] at h; unfold Hid; omega
      go_wp2
      go_roundg (gk - 1)
      case measure => omega
      case rel => exact ⟨(j - 1) / 2, d + 1, rfl, by go_num, by omega, by omega, by omega, HN.out, rfl⟩
    · obtain rfl : j = 0 := by omega
      go_wp2
      go_ret
      have h := HDD.out
      rw [dep_zero] at h
      exact ⟨by rw [← h]; simp, rfl⟩
end Go.Proofs.Ytefeedpeiiaanaa
