/- What the program's table says of []int, and the laws at single operations for elements of one cell. No statement of the seat is proved here. -/
import Derived.Test.YtaimljagflnfpaaProg
import Derived.Test.YtaimljagflnfpaaLaws3
import Derived.ArgAppend
namespace Go.Proofs.Ytaimljagflnfpaa
open Go.RowKit
theorem elInt : El Try.prog 22 3 1 8 := El.mk' (z := .int .i64 0) Try.underlying22 (by kernel_rfl) rfl (by decide)

theorem zerosInt_one (n : Nat) : ∀ u ∈ zeros (.int .i64 0) n, u.oneCell' = true := by
  intro u hu
  unfold zeros Builtin.zeroCells at hu
  simp only [Value.cells, Array.toList_map, List.mem_map] at hu
  obtain ⟨k, _, rfl⟩ := hu
  simp [Nat.mod_one, Value.oneCell']
theorem zerosInt_length (n : Nat) : (zeros (.int .i64 0) n).length = n := by rw [zeros_length]; simp [Value.cells]

section
variable {w : World} {e : TypeId} {g : Nat} {cs : List Value}
theorem own_cases1 {base n : Nat} {v : Value} (h : w.ownsRow base e 1 v n cs) :
    (v = .slice none 0 0 ∧ n = 0 ∧ cs = []) ∨ ∃ g c cur, v = .slice (some ⟨g, 0, none⟩) n c ∧ base ≤ g ∧ Blk w g e cur ∧ n ≤ c ∧ c ≤ maxLen ∧ cur.length = c ∧ cur.take n = cs := by
  have := own_cases h
  simp only [Nat.mul_one] at this
  exact this
theorem own_mk1 {base n c : Nat} {cur : List Value} (hb : base ≤ g) (h : Blk w g e cur) (hn : n ≤ c) (hc : c ≤ maxLen) (hl : cur.length = c) : w.ownsRow base e 1 (.slice (some ⟨g, 0, none⟩) n c) n (cur.take n) := by
  have := own_mk (sz := 1) hb h hn hc (by rw [Nat.mul_one]; exact hl)
  rw [Nat.mul_one] at this
  exact this
theorem own_len1 {base n : Nat} {v : Value} (h : w.ownsRow base e 1 v n cs) : cs.length = n := by have := h.1; rw [Nat.mul_one] at this; exact this
theorem Row.len1 {A : Option Addr} {n c : Nat} (h : Row w 1 A n c cs) : cs.length = n := by have := h.1; rw [Nat.mul_one] at this; exact this
theorem Row.head1 {A : Option Addr} {n c k : Nat} (h : Row w 1 A n c cs) (hk : k ≤ n) : Row w 1 A k c (cs.take k) := by
  have := h.head hk
  rw [Nat.mul_one] at this
  exact this
theorem Row.tail1 {b o n c k : Nat} (h : Row w 1 (some ⟨b, o, none⟩) n c cs) (hk : k ≤ n) (hc : ¬ c = k) : Row w 1 (some ⟨b, o + k, none⟩) (n - k) (c - k) (cs.drop k) := by
  have := h.tail hk
  rw [if_neg hc] at this
  simp only [Option.map_some, add_zero_off, Nat.mul_one] at this
  exact this
theorem Blk.row1 (h : Blk w g e cs) {n c o : Nat} (hn : n ≤ c) (hc : c ≤ maxLen) (hl : o + n ≤ cs.length) : Row w 1 (some ⟨g, o, none⟩) n c ((cs.drop o).take n) := by
  have := h.row (sz := 1) hn hc (by rw [Nat.mul_one]; exact hl)
  rw [Nat.mul_one] at this
  exact this
end

theorem cp1 (w : World) (ty : TypeId) (g o : Nat) (cur : List Value) (hg : Blk w g 3 cur) (D : Option Addr) (dl dc : Nat) (A : Option Addr) (sl sc k : Nat) (cs : List Value) (hr : Row w 1 A sl sc cs) (hk : min sl dl = k)
    (h1 : ∀ u ∈ cs.take k, u.oneCell' = true) (hD : 0 < k → D = some ⟨g, o, none⟩) (hfit : o + k ≤ cur.length) :
    (Builtin.copy_ #[22, 22] ty #[.slice D dl dc, .slice A sl sc]).run Try.prog w = .ok (goInt (k : Nat)) (w.setRow g (splice cur o (cs.take k)).toArray) := by
  subst hk
  have := run_cp elInt w ty 22 g o cur hg D dl dc A sl sc cs hr (by rw [Nat.mul_one]; exact h1) hD (by rw [Nat.mul_one]; exact hfit)
  rw [Nat.mul_one] at this
  exact this
theorem app_room1 (w : World) (ty : TypeId) (g i c : Nat) (cur : List Value) (hg : Blk w g 3 cur) (A : Option Addr) (m mc : Nat) (cs : List Value) (hr : Row w 1 A m mc cs)
    (h1 : ∀ u ∈ cs, u.oneCell' = true) (hroom : i + m ≤ c) (hl : cur.length = c) :
    (Builtin.append_ #[22, 22] ty #[.slice (some ⟨g, 0, none⟩) i c, .slice A m mc]).run Try.prog w = .ok (.slice (some ⟨g, 0, none⟩) (i + m) c) (w.setRow g (splice cur i cs).toArray) := by
  have := run_app_room elInt w ty g i c cur hg A m mc cs hr h1 hroom (by rw [Nat.mul_one]; exact hl)
  rw [Nat.mul_one] at this
  exact this
theorem clr1 (w : World) (ty : TypeId) (g o : Nat) (cur : List Value) (hg : Blk w g 3 cur) (D : Option Addr) (k dc : Nat)
    (hD : 0 < k → D = some ⟨g, o, none⟩) (hfit : o + k ≤ cur.length) :
    (Builtin.clear_ #[22] ty #[.slice D k dc]).run Try.prog w = .ok (.tuple #[]) (w.setRow g (splice cur o (zeros (.int .i64 0) k)).toArray) :=
  run_clr elInt (z := .int .i64 0) (by kernel_rfl) zerosInt_one w ty g o cur hg D k dc hD (by rw [Nat.mul_one]; exact hfit)
theorem app_zeros1 (w : World) (ty : TypeId) (A : Option Addr) (i c k N : Nat) (cs : List Value) (hr : Row w 1 A i c cs) (hN : i + k = N)
    (h0 : 0 < k) (hc : c < N) (hb : N ≤ 17592186043904) :
    ∃ (c' : Nat) (cur : List Value), (Builtin.append_ #[22, 3] ty #[.slice A i c, .int .i64 (k : Int)]).run Try.prog w = .ok (.slice (some ⟨w.heap.size, 0, none⟩) N c') (w.drew.alloc (.cells cur.toArray 3)) ∧
      N ≤ c' ∧ c' ≤ maxLen ∧ cur.length = c' ∧ cur.take i = cs := by
  subst hN
  have := run_app_zeros (P := Try.prog) elInt (z := .int .i64 0) (by kernel_rfl) (tn := 3) (kn := .i64) Try.underlying3 w ty A i c k cs hr h0 hc (by omega) (by unfold maxLen; omega)
  simp only [Nat.mul_one] at this
  exact this
/-- append that does not fit: a new row, nothing else has turned. -/
theorem app_grows1 (w : World) (ty : TypeId) (b o n c : Nat) (xs : List Value) (hr : Row w 1 (some ⟨b, o, none⟩) n c xs) (A : Option Addr) (m d : Nat) (ys : List Value) (hy : Row w 1 A m d ys) (hm : 0 < m) (hg : c < n + m) (hb : n + m ≤ 17592186043904) :
    ∃ A' c' w', (Builtin.append_ #[22, 22] ty #[.slice (some ⟨b, o, none⟩) n c, .slice A m d]).run Try.prog w = .ok (.slice A' (n + m) c') w' ∧ w'.ownsRow w.heap.size 3 1 (.slice A' (n + m) c') (n + m) (xs ++ ys) ∧ Ext w w' := by
  obtain ⟨ht, ⟨i, z, hi, hz, hs, hby, hzs⟩, hpos⟩ := elInt
  obtain ⟨b1, o1, rfl, hyc⟩ := hy.2.2.2 hm
  have hxc : ∀ j u, xs[j]? = some u → w.cell? ((⟨b, o, none⟩ : Addr).add j) = some u := fun j u hu => by
    rw [add_zero_off]
    have hn : 0 < n := by
      have h1 := (List.getElem?_eq_some_iff.1 hu).1
      have h2 := hr.len1
      omega
    obtain ⟨b2, o2, e, hc⟩ := hr.2.2.2 hn
    injection e with e
    injection e with e1 e2
    subst e1 e2
    exact hc j u hu
  obtain ⟨v', w', hrun, hown, hgr⟩ := run_append_arg_grows (P := Try.prog) (w := w) 22 ty 3 i z 1 8 ht hi hz hs hby hzs hpos ⟨b, o, none⟩ n c xs hr.1 hxc ⟨b1, o1, none⟩ m d ys hy.1 (fun j u hu => by rw [add_zero_off]; exact hyc j u hu) hg (by unfold maxLen; omega) (by omega)
  obtain ⟨A', c', rfl, _⟩ := own_form hown
  exact ⟨A', c', w', hrun, hown, ext_of_grown hgr⟩
/-- The row of v is a row of integers still. -/
def OldKept (w' : World) (v : Value) : Prop := ∀ b, v.ownBlock = some b → ∃ cur, Blk w' b 3 cur
theorem OldKept.mk' {w' : World} {g n c : Nat} {cur : List Value} (h : Blk w' g 3 cur) : OldKept w' (.slice (some ⟨g, 0, none⟩) n c) := fun b hb => by
  have e : g = b := by simpa [Value.ownBlock] using hb
  subst e
  exact ⟨cur, h⟩
theorem OldKept.nil (w' : World) : OldKept w' (.slice none 0 0) := fun b hb => by cases hb
theorem OldKept.own {w' : World} {base n : Nat} {v v' : Value} {xs : List Value} (h : w'.ownsRow base 3 1 v' n xs) (he : v'.ownBlock = v.ownBlock) : OldKept w' v := fun b hb => by
  rw [← he] at hb
  rcases own_cases1 h with ⟨rfl, _⟩ | ⟨g, c, cur, rfl, _, hk, _⟩
  · cases hb
  · exact OldKept.mk' (n := n) (c := c) hk b hb
end Go.Proofs.Ytaimljagflnfpaa
