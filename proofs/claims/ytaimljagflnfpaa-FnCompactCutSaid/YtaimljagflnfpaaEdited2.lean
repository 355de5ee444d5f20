/- The contract of impl.edited, kind by kind. No statement of the seat is proved here. -/
import Derived.Test.YtaimljagflnfpaaEdited1
namespace Go.Proofs.Ytaimljagflnfpaa
open Go.RowKit

set_option maxRecDepth 100000 in
set_option maxHeartbeats 1600000 in
theorem edited_insert (w : World) (base : Nat) (A : Option Addr) (n c : Nat) (l : List Int) (i j : Int) (B : Option Addr) (m d : Nat) (vs : List Int) (hown : w.ownsRow base 3 1 (.slice A n c) n (ints l)) (hval : Row w 1 B m d (ints vs)) (hn : n ≤ 17592186043904) (hm : n + m ≤ 17592186043904) (hbase : base ≤ w.heap.size) (hi : 0 ≤ i ∧ i ≤ (n : Int)) :
    Calls Try.prog 25 #[.slice A n c, .agg #[.int .i64 0, .int .i64 i, .int .i64 j, .slice B m d]] w (EdPost w base (.slice A n c) l (0, i, j, vs)) := by
  have hmf : ∀ (fn : Fn) (first cap : Array Value) (w : World), (Instr.makeFunc fn first cap).run Try.prog w = .ok (.func fn first cap) w := fun _ _ _ _ => rfl
  have HOWN := Lib.hid hown
  have HVAL := Lib.hid hval
  have hl : l.length = n := by have := own_len1 hown; rw [ints_length] at this; exact this
  have hv : vs.length = m := hval.ints_len
  have HL := Lib.hid hl
  have HV := Lib.hid hv
  have hby : (0 + m) * 8 ≤ 140737488355328 := by omega
  have hmx : 0 + m ≤ maxLen := by unfold maxLen; omega
  have hnn : (Value.slice A n c).ownBlock = none ∨ ∃ g, (Value.slice A n c).ownBlock = some g ∧ g < w.heap.size := own_blk_lt hown
  obtain ⟨hn, hbase⟩ : n ≤ 17592186043904 ∧ base ≤ w.heap.size := ⟨hn, hbase⟩
  clear hown hval hl hv
  obtain ⟨i, rfl⟩ := Int.eq_ofNat_of_zero_le hi.1
  have hin : i ≤ n := by omega
  clear hi
  go_enter_defers Try.func25, Try.ntmps25
  go_wp2_with (with_reducible refine stand_at 11 ?_)
  refine Stand.mk (wpList_apps elInt rfl _ _ rfl (w.heap.size + 1 + 1 + 1 + 1) (.slice (some ⟨w.heap.size + 1 + 1 + 1 + 1, 0, none⟩) 0 0) 0 [] rfl (own_lit0' _ _ _ _ (by simp)) B m d (ints vs) rfl (HVAL.out.ext (((((Ext.refl w).alloc _).alloc _).alloc _).alloc _ |>.alloc _)) (ints_one _) hby hmx (by simp) ?_)
  intro A6 q6 W1 HO6 HG6 HL6
  obtain ⟨k0, k1, k2, k3, hx, hsz⟩ := ed_frame w W1 _ _ _ _ _ HG6.out
  have HO : Hid (W1.ownsRow (w.heap.size + 1 + 1 + 1 + 1) 3 1 (.slice A6 (0 + m) q6) (0 + m) (ints vs)) := by have := HO6.out; rw [List.nil_append] at this; exact this
  rw [Nat.zero_add] at HO ⊢
  have HX := Lib.hid hx
  have HK2 := Lib.hid k2
  have HK3 := Lib.hid k3
  have HK0 := Lib.hid k0
  clear HO6 HG6 HL6 hx k2 k3 hby hmx
  have c0 : W1.cell? ⟨w.heap.size, 0, none⟩ = some (.slice A n c) := (by simp [World.cell?, k0])
  have d0 : W1.cell? ⟨w.heap.size + 1, 0, none⟩ = some (.int .i64 0) := (by simp [World.cell?, k1])
  have d1 : W1.cell? ⟨w.heap.size + 1, 1, none⟩ = some (.int .i64 i) := (by simp [World.cell?, k1])
  have d2 : W1.cell? ⟨w.heap.size + 1, 2, none⟩ = some (.int .i64 j) := (by simp [World.cell?, k1])
  clear k0 k1
  have HC : Hid (Calls Try.prog 28 #[.slice A n c, .int .i64 (i : Int), .slice A6 m q6] W1 (EditedTo W1 base (.slice A n c) (n + m) (ints (l.take i ++ vs ++ l.drop i)) (n + m ≤ capOf (.slice A n c)))) := Lib.hid ((show Calls Try.prog 28 #[.slice A n c, .int .i64 (i : Int), .slice A6 m q6] W1 (EditedInt W1 base (.slice A n c) (n + m) (ints (l.take i ++ vs ++ l.drop i)) (n + m ≤ capOf (.slice A n c))) from by have := insertInt_ok W1 base (.slice A n c) n (ints l) i A6 m q6 (ints vs) (own_ext HOWN.out HX.out) (own_base HO.out) (ints_one _) (ints_one _) hin hn hm (fun g hg he => by have h1 := (HO.out.lt g hg).1; rcases hnn with h | ⟨g', h, h2⟩ <;> rw [h] at he <;> simp at he; omega) (Nat.le_trans hbase HX.out.size); unfold ints at this ⊢; rw [List.map_append, List.map_append, List.map_take, List.map_drop]; exact this).mono fun _ _ h => h.to)
  go_wp2_with fail
  refine HC.out.mono ?_
  rintro e w2 ⟨v', rfl, hed0⟩
  obtain ⟨A', c', rfl, hr'⟩ := own_form hed0.1
  have hed : EditedTo W1 base (.slice A n c) (n + m) (ints (l.take i ++ vs ++ l.drop i)) (n + m ≤ capOf (.slice A n c)) (.returned (.slice A' (n + m) c')) w2 := ⟨_, rfl, hed0⟩
  have q2 := ed_kept w W1 w2 base _ n _ _ _ _ _ HOWN.out hed HK2.out (by omega)
  have q3 := ed_kept w W1 w2 base _ n _ _ _ _ _ HOWN.out hed HK3.out (by omega)
  have HED := Lib.hid (ed_close w W1 w2 base _ _ n _ _ _ _ HX.out hsz HOWN.out hed (.slice A' (n + m) c') (.bool false))
  clear hed hed0 hr' c0 d0 d1 d2
  have r2 : w2.cell? ⟨w.heap.size + 1 + 1, 0, none⟩ = some (.slice none 0 0) := (by simp [World.cell?, q2])
  have r3 : w2.cell? ⟨w.heap.size + 1 + 1 + 1, 0, none⟩ = some (.bool false) := (by simp [World.cell?, q3])
  have f2 : w2.frozen? ⟨w.heap.size + 1 + 1, 0, none⟩ = false := (by simp [World.frozen?, q2])
  have f3 : w2.frozen? ⟨w.heap.size + 1 + 1 + 1, 0, none⟩ = false := (by simp [World.frozen?, q3])
  clear q2 q3
  go_wp2
  refine leaves_cons (f := 27) (args := #[.pointer (some ⟨w.heap.size, 0, none⟩), .pointer (some ⟨w.heap.size + 1 + 1, 0, none⟩), .pointer (some ⟨w.heap.size + 1 + 1 + 1, 0, none⟩)]) (by simp) (by simp [go_sem]) ?_
  refine (catch_idle _ _ _ _).mono ?_
  rintro e u' w'' ⟨rfl, rfl, rfl⟩
  have s2 : (w2.setCell ⟨w.heap.size + 1 + 1, 0, none⟩ (.slice A' (n + m) c')).cell? ⟨w.heap.size + 1 + 1, 0, none⟩ = some (.slice A' (n + m) c') := World.cell?_setCell_same _ _ _ r2
  have s3 : (w2.setCell ⟨w.heap.size + 1 + 1, 0, none⟩ (.slice A' (n + m) c')).cell? ⟨w.heap.size + 1 + 1 + 1, 0, none⟩ = some (.bool false) := (World.cell?_setCell_other _ _ _ _ (by simp)).trans r3
  have s4 := World.cell?_setCell_same _ _ (.bool false) s3
  simp [Leaves, settle, results, Try.results25, go_sem, s2, s4]
  obtain ⟨e1, e2, e3, e4⟩ := HED.out
  exact ed_post ((editP_0 _ _ _ _).trans (cutP_some (Nat.le_refl _) (by rw [HL.out]; exact hin))) (by simp only [List.length_append, List.length_take, List.length_drop, HL.out, HV.out]; omega) e1 e2 e3 e4 (fun h => by rcases h with h | h | h | h; cases h; cases h; cases h.1; have h2 := h.2; rw [HL.out, HV.out] at h2; exact h2) (fun h => by cases h)

set_option maxRecDepth 100000 in
set_option maxHeartbeats 1600000 in
theorem edited_delete (w : World) (base : Nat) (A : Option Addr) (n c : Nat) (l : List Int) (i j : Int) (B : Option Addr) (m d : Nat) (vs : List Int) (hown : w.ownsRow base 3 1 (.slice A n c) n (ints l)) (hval : Row w 1 B m d (ints vs)) (hn : n ≤ 17592186043904) (hm : n + m ≤ 17592186043904) (hbase : base ≤ w.heap.size) (hi : 0 ≤ i ∧ i ≤ j ∧ j ≤ (n : Int)) :
    Calls Try.prog 25 #[.slice A n c, .agg #[.int .i64 1, .int .i64 i, .int .i64 j, .slice B m d]] w (EdPost w base (.slice A n c) l (1, i, j, vs)) := by
  have hmf : ∀ (fn : Fn) (first cap : Array Value) (w : World), (Instr.makeFunc fn first cap).run Try.prog w = .ok (.func fn first cap) w := fun _ _ _ _ => rfl
  have HOWN := Lib.hid hown
  have HVAL := Lib.hid hval
  have hl : l.length = n := by have := own_len1 hown; rw [ints_length] at this; exact this
  have hv : vs.length = m := hval.ints_len
  have HL := Lib.hid hl
  have HV := Lib.hid hv
  have hby : (0 + m) * 8 ≤ 140737488355328 := by omega
  have hmx : 0 + m ≤ maxLen := by unfold maxLen; omega
  have hnn : (Value.slice A n c).ownBlock = none ∨ ∃ g, (Value.slice A n c).ownBlock = some g ∧ g < w.heap.size := own_blk_lt hown
  obtain ⟨hn, hbase⟩ : n ≤ 17592186043904 ∧ base ≤ w.heap.size := ⟨hn, hbase⟩
  clear hown hval hl hv
  obtain ⟨i, rfl⟩ := Int.eq_ofNat_of_zero_le hi.1
  obtain ⟨j, rfl⟩ := Int.eq_ofNat_of_zero_le (Int.le_trans hi.1 hi.2.1)
  have hij : i ≤ j := by omega
  have hjn : j ≤ n := by omega
  clear hi
  go_enter_defers Try.func25, Try.ntmps25
  go_wp2_with (with_reducible refine stand_at 11 ?_)
  refine Stand.mk (wpList_apps elInt rfl _ _ rfl (w.heap.size + 1 + 1 + 1 + 1) (.slice (some ⟨w.heap.size + 1 + 1 + 1 + 1, 0, none⟩) 0 0) 0 [] rfl (own_lit0' _ _ _ _ (by simp)) B m d (ints vs) rfl (HVAL.out.ext (((((Ext.refl w).alloc _).alloc _).alloc _).alloc _ |>.alloc _)) (ints_one _) hby hmx (by simp) ?_)
  intro A6 q6 W1 HO6 HG6 HL6
  obtain ⟨k0, k1, k2, k3, hx, hsz⟩ := ed_frame w W1 _ _ _ _ _ HG6.out
  have HO : Hid (W1.ownsRow (w.heap.size + 1 + 1 + 1 + 1) 3 1 (.slice A6 (0 + m) q6) (0 + m) (ints vs)) := by have := HO6.out; rw [List.nil_append] at this; exact this
  rw [Nat.zero_add] at HO ⊢
  have HX := Lib.hid hx
  have HK2 := Lib.hid k2
  have HK3 := Lib.hid k3
  have HK0 := Lib.hid k0
  clear HO6 HG6 HL6 hx k2 k3 hby hmx
  have c0 : W1.cell? ⟨w.heap.size, 0, none⟩ = some (.slice A n c) := (by simp [World.cell?, k0])
  have d0 : W1.cell? ⟨w.heap.size + 1, 0, none⟩ = some (.int .i64 1) := (by simp [World.cell?, k1])
  have d1 : W1.cell? ⟨w.heap.size + 1, 1, none⟩ = some (.int .i64 i) := (by simp [World.cell?, k1])
  have d2 : W1.cell? ⟨w.heap.size + 1, 2, none⟩ = some (.int .i64 j) := (by simp [World.cell?, k1])
  clear k0 k1
  have HC : Hid (Calls Try.prog 29 #[.slice A n c, .int .i64 (i : Int), .int .i64 (j : Int)] W1 (EditedTo W1 base (.slice A n c) (i + (n - j)) (ints (l.take i ++ l.drop j)) (True))) := Lib.hid ((show Calls Try.prog 29 #[.slice A n c, .int .i64 (i : Int), .int .i64 (j : Int)] W1 (EditedInt W1 base (.slice A n c) (i + (n - j)) (ints (l.take i ++ l.drop j)) (True)) from by have := deleteInt_ok W1 base (.slice A n c) n (ints l) i j (own_ext HOWN.out HX.out) (ints_one _) hij hjn hn; unfold ints at this ⊢; rw [List.map_append, List.map_take, List.map_drop]; exact this).mono fun _ _ h => h.to)
  go_wp2_with fail
  refine HC.out.mono ?_
  rintro e w2 ⟨v', rfl, hed0⟩
  obtain ⟨A', c', rfl, hr'⟩ := own_form hed0.1
  have hed : EditedTo W1 base (.slice A n c) (i + (n - j)) (ints (l.take i ++ l.drop j)) (True) (.returned (.slice A' (i + (n - j)) c')) w2 := ⟨_, rfl, hed0⟩
  have q2 := ed_kept w W1 w2 base _ n _ _ _ _ _ HOWN.out hed HK2.out (by omega)
  have q3 := ed_kept w W1 w2 base _ n _ _ _ _ _ HOWN.out hed HK3.out (by omega)
  have HED := Lib.hid (ed_close w W1 w2 base _ _ n _ _ _ _ HX.out hsz HOWN.out hed (.slice A' (i + (n - j)) c') (.bool false))
  clear hed hed0 hr' c0 d0 d1 d2
  have r2 : w2.cell? ⟨w.heap.size + 1 + 1, 0, none⟩ = some (.slice none 0 0) := (by simp [World.cell?, q2])
  have r3 : w2.cell? ⟨w.heap.size + 1 + 1 + 1, 0, none⟩ = some (.bool false) := (by simp [World.cell?, q3])
  have f2 : w2.frozen? ⟨w.heap.size + 1 + 1, 0, none⟩ = false := (by simp [World.frozen?, q2])
  have f3 : w2.frozen? ⟨w.heap.size + 1 + 1 + 1, 0, none⟩ = false := (by simp [World.frozen?, q3])
  clear q2 q3
  go_wp2
  refine leaves_cons (f := 27) (args := #[.pointer (some ⟨w.heap.size, 0, none⟩), .pointer (some ⟨w.heap.size + 1 + 1, 0, none⟩), .pointer (some ⟨w.heap.size + 1 + 1 + 1, 0, none⟩)]) (by simp) (by simp [go_sem]) ?_
  refine (catch_idle _ _ _ _).mono ?_
  rintro e u' w'' ⟨rfl, rfl, rfl⟩
  have s2 : (w2.setCell ⟨w.heap.size + 1 + 1, 0, none⟩ (.slice A' (i + (n - j)) c')).cell? ⟨w.heap.size + 1 + 1, 0, none⟩ = some (.slice A' (i + (n - j)) c') := World.cell?_setCell_same _ _ _ r2
  have s3 : (w2.setCell ⟨w.heap.size + 1 + 1, 0, none⟩ (.slice A' (i + (n - j)) c')).cell? ⟨w.heap.size + 1 + 1 + 1, 0, none⟩ = some (.bool false) := (World.cell?_setCell_other _ _ _ _ (by simp)).trans r3
  have s4 := World.cell?_setCell_same _ _ (.bool false) s3
  simp [Leaves, settle, results, Try.results25, go_sem, s2, s4]
  obtain ⟨e1, e2, e3, e4⟩ := HED.out
  exact ed_post (by rw [editP_1, cutP_some hij (by rw [HL.out]; exact hjn), List.append_nil]) (by simp only [List.length_append, List.length_take, List.length_drop, HL.out]; omega) e1 e2 e3 e4 (fun _ => trivial) (fun h => by cases h)

set_option maxRecDepth 100000 in
set_option maxHeartbeats 1600000 in
theorem edited_replace (w : World) (base : Nat) (A : Option Addr) (n c : Nat) (l : List Int) (i j : Int) (B : Option Addr) (m d : Nat) (vs : List Int) (hown : w.ownsRow base 3 1 (.slice A n c) n (ints l)) (hval : Row w 1 B m d (ints vs)) (hn : n ≤ 17592186043904) (hm : n + m ≤ 17592186043904) (hbase : base ≤ w.heap.size) (hi : 0 ≤ i ∧ i ≤ j ∧ j ≤ (n : Int)) :
    Calls Try.prog 25 #[.slice A n c, .agg #[.int .i64 2, .int .i64 i, .int .i64 j, .slice B m d]] w (EdPost w base (.slice A n c) l (2, i, j, vs)) := by
  have hmf : ∀ (fn : Fn) (first cap : Array Value) (w : World), (Instr.makeFunc fn first cap).run Try.prog w = .ok (.func fn first cap) w := fun _ _ _ _ => rfl
  have HOWN := Lib.hid hown
  have HVAL := Lib.hid hval
  have hl : l.length = n := by have := own_len1 hown; rw [ints_length] at this; exact this
  have hv : vs.length = m := hval.ints_len
  have HL := Lib.hid hl
  have HV := Lib.hid hv
  have hby : (0 + m) * 8 ≤ 140737488355328 := by omega
  have hmx : 0 + m ≤ maxLen := by unfold maxLen; omega
  have hnn : (Value.slice A n c).ownBlock = none ∨ ∃ g, (Value.slice A n c).ownBlock = some g ∧ g < w.heap.size := own_blk_lt hown
  obtain ⟨hn, hbase⟩ : n ≤ 17592186043904 ∧ base ≤ w.heap.size := ⟨hn, hbase⟩
  clear hown hval hl hv
  obtain ⟨i, rfl⟩ := Int.eq_ofNat_of_zero_le hi.1
  obtain ⟨j, rfl⟩ := Int.eq_ofNat_of_zero_le (Int.le_trans hi.1 hi.2.1)
  have hij : i ≤ j := by omega
  have hjn : j ≤ n := by omega
  clear hi
  go_enter_defers Try.func25, Try.ntmps25
  go_wp2_with (with_reducible refine stand_at 11 ?_)
  refine Stand.mk (wpList_apps elInt rfl _ _ rfl (w.heap.size + 1 + 1 + 1 + 1) (.slice (some ⟨w.heap.size + 1 + 1 + 1 + 1, 0, none⟩) 0 0) 0 [] rfl (own_lit0' _ _ _ _ (by simp)) B m d (ints vs) rfl (HVAL.out.ext (((((Ext.refl w).alloc _).alloc _).alloc _).alloc _ |>.alloc _)) (ints_one _) hby hmx (by simp) ?_)
  intro A6 q6 W1 HO6 HG6 HL6
  obtain ⟨k0, k1, k2, k3, hx, hsz⟩ := ed_frame w W1 _ _ _ _ _ HG6.out
  have HO : Hid (W1.ownsRow (w.heap.size + 1 + 1 + 1 + 1) 3 1 (.slice A6 (0 + m) q6) (0 + m) (ints vs)) := by have := HO6.out; rw [List.nil_append] at this; exact this
  rw [Nat.zero_add] at HO ⊢
  have HX := Lib.hid hx
  have HK2 := Lib.hid k2
  have HK3 := Lib.hid k3
  have HK0 := Lib.hid k0
  clear HO6 HG6 HL6 hx k2 k3 hby hmx
  have c0 : W1.cell? ⟨w.heap.size, 0, none⟩ = some (.slice A n c) := (by simp [World.cell?, k0])
  have d0 : W1.cell? ⟨w.heap.size + 1, 0, none⟩ = some (.int .i64 2) := (by simp [World.cell?, k1])
  have d1 : W1.cell? ⟨w.heap.size + 1, 1, none⟩ = some (.int .i64 i) := (by simp [World.cell?, k1])
  have d2 : W1.cell? ⟨w.heap.size + 1, 2, none⟩ = some (.int .i64 j) := (by simp [World.cell?, k1])
  clear k0 k1
  have HC : Hid (Calls Try.prog 30 #[.slice A n c, .int .i64 (i : Int), .int .i64 (j : Int), .slice A6 m q6] W1 (EditedTo W1 base (.slice A n c) (i + m + (n - j)) (ints (l.take i ++ vs ++ l.drop j)) (i + m ≤ j))) := Lib.hid ((show Calls Try.prog 30 #[.slice A n c, .int .i64 (i : Int), .int .i64 (j : Int), .slice A6 m q6] W1 (EditedInt W1 base (.slice A n c) (i + m + (n - j)) (ints (l.take i ++ vs ++ l.drop j)) (i + m ≤ j)) from by have := replaceInt_ok W1 base (.slice A n c) n (ints l) i j A6 m q6 (ints vs) (own_ext HOWN.out HX.out) (own_base HO.out) (ints_one _) (ints_one _) hij hjn hn hm (fun g hg he => by have h1 := (HO.out.lt g hg).1; rcases hnn with h | ⟨g', h, h2⟩ <;> rw [h] at he <;> simp at he; omega) (Nat.le_trans hbase HX.out.size); unfold ints at this ⊢; rw [List.map_append, List.map_append, List.map_take, List.map_drop]; exact this).mono fun _ _ h => h.to)
  go_wp2_with fail
  refine HC.out.mono ?_
  rintro e w2 ⟨v', rfl, hed0⟩
  obtain ⟨A', c', rfl, hr'⟩ := own_form hed0.1
  have hed : EditedTo W1 base (.slice A n c) (i + m + (n - j)) (ints (l.take i ++ vs ++ l.drop j)) (i + m ≤ j) (.returned (.slice A' (i + m + (n - j)) c')) w2 := ⟨_, rfl, hed0⟩
  have q2 := ed_kept w W1 w2 base _ n _ _ _ _ _ HOWN.out hed HK2.out (by omega)
  have q3 := ed_kept w W1 w2 base _ n _ _ _ _ _ HOWN.out hed HK3.out (by omega)
  have HED := Lib.hid (ed_close w W1 w2 base _ _ n _ _ _ _ HX.out hsz HOWN.out hed (.slice A' (i + m + (n - j)) c') (.bool false))
  clear hed hed0 hr' c0 d0 d1 d2
  have r2 : w2.cell? ⟨w.heap.size + 1 + 1, 0, none⟩ = some (.slice none 0 0) := (by simp [World.cell?, q2])
  have r3 : w2.cell? ⟨w.heap.size + 1 + 1 + 1, 0, none⟩ = some (.bool false) := (by simp [World.cell?, q3])
  have f2 : w2.frozen? ⟨w.heap.size + 1 + 1, 0, none⟩ = false := (by simp [World.frozen?, q2])
  have f3 : w2.frozen? ⟨w.heap.size + 1 + 1 + 1, 0, none⟩ = false := (by simp [World.frozen?, q3])
  clear q2 q3
  go_wp2
  refine leaves_cons (f := 27) (args := #[.pointer (some ⟨w.heap.size, 0, none⟩), .pointer (some ⟨w.heap.size + 1 + 1, 0, none⟩), .pointer (some ⟨w.heap.size + 1 + 1 + 1, 0, none⟩)]) (by simp) (by simp [go_sem]) ?_
  refine (catch_idle _ _ _ _).mono ?_
  rintro e u' w'' ⟨rfl, rfl, rfl⟩
  have s2 : (w2.setCell ⟨w.heap.size + 1 + 1, 0, none⟩ (.slice A' (i + m + (n - j)) c')).cell? ⟨w.heap.size + 1 + 1, 0, none⟩ = some (.slice A' (i + m + (n - j)) c') := World.cell?_setCell_same _ _ _ r2
  have s3 : (w2.setCell ⟨w.heap.size + 1 + 1, 0, none⟩ (.slice A' (i + m + (n - j)) c')).cell? ⟨w.heap.size + 1 + 1 + 1, 0, none⟩ = some (.bool false) := (World.cell?_setCell_other _ _ _ _ (by simp)).trans r3
  have s4 := World.cell?_setCell_same _ _ (.bool false) s3
  simp [Leaves, settle, results, Try.results25, go_sem, s2, s4]
  obtain ⟨e1, e2, e3, e4⟩ := HED.out
  exact ed_post (by rw [editP_2, cutP_some hij (by rw [HL.out]; exact hjn)]) (by simp only [List.length_append, List.length_take, List.length_drop, HL.out, HV.out]; omega) e1 e2 e3 e4 (fun h => by rcases h with h | h | h | h; cases h; cases h; have h2 := h.2; simp only [HV.out] at h2; omega; cases h.1) (fun h => by cases h)

set_option maxRecDepth 100000 in
set_option maxHeartbeats 1600000 in
theorem edited_compact (w : World) (base : Nat) (A : Option Addr) (n c : Nat) (l : List Int) (i j : Int) (B : Option Addr) (m d : Nat) (vs : List Int) (hown : w.ownsRow base 3 1 (.slice A n c) n (ints l)) (hval : Row w 1 B m d (ints vs)) (hn : n ≤ 17592186043904) (hm : n + m ≤ 17592186043904) (hbase : base ≤ w.heap.size) :
    Calls Try.prog 25 #[.slice A n c, .agg #[.int .i64 3, .int .i64 i, .int .i64 j, .slice B m d]] w (EdPost w base (.slice A n c) l (3, i, j, vs)) := by
  have hmf : ∀ (fn : Fn) (first cap : Array Value) (w : World), (Instr.makeFunc fn first cap).run Try.prog w = .ok (.func fn first cap) w := fun _ _ _ _ => rfl
  have HOWN := Lib.hid hown
  have HVAL := Lib.hid hval
  have hl : l.length = n := by have := own_len1 hown; rw [ints_length] at this; exact this
  have hv : vs.length = m := hval.ints_len
  have HL := Lib.hid hl
  have HV := Lib.hid hv
  have hby : (0 + m) * 8 ≤ 140737488355328 := by omega
  have hmx : 0 + m ≤ maxLen := by unfold maxLen; omega
  have hnn : (Value.slice A n c).ownBlock = none ∨ ∃ g, (Value.slice A n c).ownBlock = some g ∧ g < w.heap.size := own_blk_lt hown
  obtain ⟨hn, hbase⟩ : n ≤ 17592186043904 ∧ base ≤ w.heap.size := ⟨hn, hbase⟩
  clear hown hval hl hv
  go_enter_defers Try.func25, Try.ntmps25
  go_wp2_with (with_reducible refine stand_at 11 ?_)
  refine Stand.mk (wpList_apps elInt rfl _ _ rfl (w.heap.size + 1 + 1 + 1 + 1) (.slice (some ⟨w.heap.size + 1 + 1 + 1 + 1, 0, none⟩) 0 0) 0 [] rfl (own_lit0' _ _ _ _ (by simp)) B m d (ints vs) rfl (HVAL.out.ext (((((Ext.refl w).alloc _).alloc _).alloc _).alloc _ |>.alloc _)) (ints_one _) hby hmx (by simp) ?_)
  intro A6 q6 W1 HO6 HG6 HL6
  obtain ⟨k0, k1, k2, k3, hx, hsz⟩ := ed_frame w W1 _ _ _ _ _ HG6.out
  have HO : Hid (W1.ownsRow (w.heap.size + 1 + 1 + 1 + 1) 3 1 (.slice A6 (0 + m) q6) (0 + m) (ints vs)) := by have := HO6.out; rw [List.nil_append] at this; exact this
  rw [Nat.zero_add] at HO ⊢
  have HX := Lib.hid hx
  have HK2 := Lib.hid k2
  have HK3 := Lib.hid k3
  have HK0 := Lib.hid k0
  clear HO6 HG6 HL6 hx k2 k3 hby hmx
  have c0 : W1.cell? ⟨w.heap.size, 0, none⟩ = some (.slice A n c) := (by simp [World.cell?, k0])
  have d0 : W1.cell? ⟨w.heap.size + 1, 0, none⟩ = some (.int .i64 3) := (by simp [World.cell?, k1])
  have d1 : W1.cell? ⟨w.heap.size + 1, 1, none⟩ = some (.int .i64 i) := (by simp [World.cell?, k1])
  have d2 : W1.cell? ⟨w.heap.size + 1, 2, none⟩ = some (.int .i64 j) := (by simp [World.cell?, k1])
  clear k0 k1
  have HC : Hid (Calls Try.prog 31 #[.slice A n c] W1 (EditedTo W1 base (.slice A n c) ((compO none l).length) (ints (compO none l)) (True))) := Lib.hid ((show Calls Try.prog 31 #[.slice A n c] W1 (EditedInt W1 base (.slice A n c) ((compO none l).length) (ints (compO none l)) (True)) from compactInt_ok W1 base (.slice A n c) n l (own_ext HOWN.out HX.out)).mono fun _ _ h => h.to)
  go_wp2_with fail
  refine HC.out.mono ?_
  rintro e w2 ⟨v', rfl, hed0⟩
  obtain ⟨A', c', rfl, hr'⟩ := own_form hed0.1
  have hed : EditedTo W1 base (.slice A n c) ((compO none l).length) (ints (compO none l)) (True) (.returned (.slice A' ((compO none l).length) c')) w2 := ⟨_, rfl, hed0⟩
  have q2 := ed_kept w W1 w2 base _ n _ _ _ _ _ HOWN.out hed HK2.out (by omega)
  have q3 := ed_kept w W1 w2 base _ n _ _ _ _ _ HOWN.out hed HK3.out (by omega)
  have HED := Lib.hid (ed_close w W1 w2 base _ _ n _ _ _ _ HX.out hsz HOWN.out hed (.slice A' ((compO none l).length) c') (.bool false))
  clear hed hed0 hr' c0 d0 d1 d2
  have r2 : w2.cell? ⟨w.heap.size + 1 + 1, 0, none⟩ = some (.slice none 0 0) := (by simp [World.cell?, q2])
  have r3 : w2.cell? ⟨w.heap.size + 1 + 1 + 1, 0, none⟩ = some (.bool false) := (by simp [World.cell?, q3])
  have f2 : w2.frozen? ⟨w.heap.size + 1 + 1, 0, none⟩ = false := (by simp [World.frozen?, q2])
  have f3 : w2.frozen? ⟨w.heap.size + 1 + 1 + 1, 0, none⟩ = false := (by simp [World.frozen?, q3])
  clear q2 q3
  go_wp2
  refine leaves_cons (f := 27) (args := #[.pointer (some ⟨w.heap.size, 0, none⟩), .pointer (some ⟨w.heap.size + 1 + 1, 0, none⟩), .pointer (some ⟨w.heap.size + 1 + 1 + 1, 0, none⟩)]) (by simp) (by simp [go_sem]) ?_
  refine (catch_idle _ _ _ _).mono ?_
  rintro e u' w'' ⟨rfl, rfl, rfl⟩
  have s2 : (w2.setCell ⟨w.heap.size + 1 + 1, 0, none⟩ (.slice A' ((compO none l).length) c')).cell? ⟨w.heap.size + 1 + 1, 0, none⟩ = some (.slice A' ((compO none l).length) c') := World.cell?_setCell_same _ _ _ r2
  have s3 : (w2.setCell ⟨w.heap.size + 1 + 1, 0, none⟩ (.slice A' ((compO none l).length) c')).cell? ⟨w.heap.size + 1 + 1 + 1, 0, none⟩ = some (.bool false) := (World.cell?_setCell_other _ _ _ _ (by simp)).trans r3
  have s4 := World.cell?_setCell_same _ _ (.bool false) s3
  simp [Leaves, settle, results, Try.results25, go_sem, s2, s4]
  obtain ⟨e1, e2, e3, e4⟩ := HED.out
  exact ed_post (editP_3 _ _ _ _) rfl e1 e2 e3 e4 (fun _ => trivial) (fun h => by cases h)

set_option maxRecDepth 100000 in
set_option maxHeartbeats 1600000 in
theorem edited_concat (w : World) (base : Nat) (A : Option Addr) (n c : Nat) (l : List Int) (i j : Int) (B : Option Addr) (m d : Nat) (vs : List Int) (hown : w.ownsRow base 3 1 (.slice A n c) n (ints l)) (hval : Row w 1 B m d (ints vs)) (hn : n ≤ 17592186043904) (hm : n + m ≤ 17592186043904) (hbase : base ≤ w.heap.size) :
    Calls Try.prog 25 #[.slice A n c, .agg #[.int .i64 4, .int .i64 i, .int .i64 j, .slice B m d]] w (EdPost w base (.slice A n c) l (4, i, j, vs)) := by
  have hmf : ∀ (fn : Fn) (first cap : Array Value) (w : World), (Instr.makeFunc fn first cap).run Try.prog w = .ok (.func fn first cap) w := fun _ _ _ _ => rfl
  have HOWN := Lib.hid hown
  have HVAL := Lib.hid hval
  have hl : l.length = n := by have := own_len1 hown; rw [ints_length] at this; exact this
  have hv : vs.length = m := hval.ints_len
  have HL := Lib.hid hl
  have HV := Lib.hid hv
  have hby : (0 + m) * 8 ≤ 140737488355328 := by omega
  have hmx : 0 + m ≤ maxLen := by unfold maxLen; omega
  have hnn : (Value.slice A n c).ownBlock = none ∨ ∃ g, (Value.slice A n c).ownBlock = some g ∧ g < w.heap.size := own_blk_lt hown
  obtain ⟨hn, hbase⟩ : n ≤ 17592186043904 ∧ base ≤ w.heap.size := ⟨hn, hbase⟩
  clear hown hval hl hv
  go_enter_defers Try.func25, Try.ntmps25
  go_wp2_with (with_reducible refine stand_at 11 ?_)
  refine Stand.mk (wpList_apps elInt rfl _ _ rfl (w.heap.size + 1 + 1 + 1 + 1) (.slice (some ⟨w.heap.size + 1 + 1 + 1 + 1, 0, none⟩) 0 0) 0 [] rfl (own_lit0' _ _ _ _ (by simp)) B m d (ints vs) rfl (HVAL.out.ext (((((Ext.refl w).alloc _).alloc _).alloc _).alloc _ |>.alloc _)) (ints_one _) hby hmx (by simp) ?_)
  intro A6 q6 W1 HO6 HG6 HL6
  obtain ⟨k0, k1, k2, k3, hx, hsz⟩ := ed_frame w W1 _ _ _ _ _ HG6.out
  have HO : Hid (W1.ownsRow (w.heap.size + 1 + 1 + 1 + 1) 3 1 (.slice A6 (0 + m) q6) (0 + m) (ints vs)) := by have := HO6.out; rw [List.nil_append] at this; exact this
  rw [Nat.zero_add] at HO ⊢
  have HX := Lib.hid hx
  have HK2 := Lib.hid k2
  have HK3 := Lib.hid k3
  have HK0 := Lib.hid k0
  clear HO6 HG6 HL6 hx k2 k3 hby hmx
  have c0 : W1.cell? ⟨w.heap.size, 0, none⟩ = some (.slice A n c) := (by simp [World.cell?, k0])
  have d0 : W1.cell? ⟨w.heap.size + 1, 0, none⟩ = some (.int .i64 4) := (by simp [World.cell?, k1])
  have d1 : W1.cell? ⟨w.heap.size + 1, 1, none⟩ = some (.int .i64 i) := (by simp [World.cell?, k1])
  have d2 : W1.cell? ⟨w.heap.size + 1, 2, none⟩ = some (.int .i64 j) := (by simp [World.cell?, k1])
  clear k0 k1
  have HC := Lib.hid (concat_two W1 base A A6 n c m q6 l vs (Row.own (own_ext HOWN.out HX.out)) (Row.own HO.out) hn hm (Nat.le_trans hbase HX.out.size) (OldKept.own (own_ext HOWN.out HX.out) rfl))
  have hml2 : 2 ≤ maxLen := by unfold maxLen; omega
  go_wp2_with fail
  refine HC.out.mono ?_
  rintro e w2 ⟨⟨v', rfl, hed0⟩, hnew⟩
  obtain ⟨A', c', rfl, hr'⟩ := own_form hed0.1
  have hed : EditedTo W1 base (.slice A n c) (n + m) (ints (l ++ vs)) (False) (.returned (.slice A' (n + m) c')) w2 := ⟨_, rfl, hed0⟩
  have HNEW := Lib.hid (hnew _ rfl)
  clear hnew
  have q2 := ed_kept w W1 w2 base _ n _ _ _ _ _ HOWN.out hed HK2.out (by omega)
  have q3 := ed_kept w W1 w2 base _ n _ _ _ _ _ HOWN.out hed HK3.out (by omega)
  have HED := Lib.hid (ed_close w W1 w2 base _ _ n _ _ _ _ HX.out hsz HOWN.out hed (.slice A' (n + m) c') (.bool false))
  clear hed hed0 hr' c0 d0 d1 d2
  have r2 : w2.cell? ⟨w.heap.size + 1 + 1, 0, none⟩ = some (.slice none 0 0) := (by simp [World.cell?, q2])
  have r3 : w2.cell? ⟨w.heap.size + 1 + 1 + 1, 0, none⟩ = some (.bool false) := (by simp [World.cell?, q3])
  have f2 : w2.frozen? ⟨w.heap.size + 1 + 1, 0, none⟩ = false := (by simp [World.frozen?, q2])
  have f3 : w2.frozen? ⟨w.heap.size + 1 + 1 + 1, 0, none⟩ = false := (by simp [World.frozen?, q3])
  clear q2 q3
  go_wp2
  refine leaves_cons (f := 27) (args := #[.pointer (some ⟨w.heap.size, 0, none⟩), .pointer (some ⟨w.heap.size + 1 + 1, 0, none⟩), .pointer (some ⟨w.heap.size + 1 + 1 + 1, 0, none⟩)]) (by simp) (by simp [go_sem]) ?_
  refine (catch_idle _ _ _ _).mono ?_
  rintro e u' w'' ⟨rfl, rfl, rfl⟩
  have s2 : (w2.setCell ⟨w.heap.size + 1 + 1, 0, none⟩ (.slice A' (n + m) c')).cell? ⟨w.heap.size + 1 + 1, 0, none⟩ = some (.slice A' (n + m) c') := World.cell?_setCell_same _ _ _ r2
  have s3 : (w2.setCell ⟨w.heap.size + 1 + 1, 0, none⟩ (.slice A' (n + m) c')).cell? ⟨w.heap.size + 1 + 1 + 1, 0, none⟩ = some (.bool false) := (World.cell?_setCell_other _ _ _ _ (by simp)).trans r3
  have s4 := World.cell?_setCell_same _ _ (.bool false) s3
  simp [Leaves, settle, results, Try.results25, go_sem, s2, s4]
  obtain ⟨e1, e2, e3, e4⟩ := HED.out
  exact ed_post (editP_4 _ _ _ _) (by rw [List.length_append, HL.out, HV.out]) e1 e2 e3 e4 (fun h => by rcases h with h | h | h | h; cases h; cases h; cases h.1; cases h.1) (fun _ g hg => Nat.le_trans HX.out.size (HNEW.out g hg))

set_option maxRecDepth 100000 in
set_option maxHeartbeats 1600000 in
theorem edited_insert_out (w : World) (base : Nat) (A : Option Addr) (n c : Nat) (l : List Int) (i j : Int) (B : Option Addr) (m d : Nat) (vs : List Int) (hown : w.ownsRow base 3 1 (.slice A n c) n (ints l)) (hval : Row w 1 B m d (ints vs)) (hn : n ≤ 17592186043904) (hm : n + m ≤ 17592186043904) (hbase : base ≤ w.heap.size) (hi : i < 0 ∨ (n : Int) < i) :
    Calls Try.prog 25 #[.slice A n c, .agg #[.int .i64 0, .int .i64 i, .int .i64 j, .slice B m d]] w (EdPost w base (.slice A n c) l (0, i, j, vs)) := by
  have hmf : ∀ (fn : Fn) (first cap : Array Value) (w : World), (Instr.makeFunc fn first cap).run Try.prog w = .ok (.func fn first cap) w := fun _ _ _ _ => rfl
  have HOWN := Lib.hid hown
  have HVAL := Lib.hid hval
  have hl : l.length = n := by have := own_len1 hown; rw [ints_length] at this; exact this
  have hv : vs.length = m := hval.ints_len
  have HL := Lib.hid hl
  have HV := Lib.hid hv
  have hby : (0 + m) * 8 ≤ 140737488355328 := by omega
  have hmx : 0 + m ≤ maxLen := by unfold maxLen; omega
  have hnn : (Value.slice A n c).ownBlock = none ∨ ∃ g, (Value.slice A n c).ownBlock = some g ∧ g < w.heap.size := own_blk_lt hown
  obtain ⟨hn, hbase⟩ : n ≤ 17592186043904 ∧ base ≤ w.heap.size := ⟨hn, hbase⟩
  clear hown hval hl hv
  go_enter_defers Try.func25, Try.ntmps25
  go_wp2_with (with_reducible refine stand_at 11 ?_)
  refine Stand.mk (wpList_apps elInt rfl _ _ rfl (w.heap.size + 1 + 1 + 1 + 1) (.slice (some ⟨w.heap.size + 1 + 1 + 1 + 1, 0, none⟩) 0 0) 0 [] rfl (own_lit0' _ _ _ _ (by simp)) B m d (ints vs) rfl (HVAL.out.ext (((((Ext.refl w).alloc _).alloc _).alloc _).alloc _ |>.alloc _)) (ints_one _) hby hmx (by simp) ?_)
  intro A6 q6 W1 HO6 HG6 HL6
  obtain ⟨k0, k1, k2, k3, hx, hsz⟩ := ed_frame w W1 _ _ _ _ _ HG6.out
  have HO : Hid (W1.ownsRow (w.heap.size + 1 + 1 + 1 + 1) 3 1 (.slice A6 (0 + m) q6) (0 + m) (ints vs)) := by have := HO6.out; rw [List.nil_append] at this; exact this
  rw [Nat.zero_add] at HO ⊢
  have HX := Lib.hid hx
  have HK2 := Lib.hid k2
  have HK3 := Lib.hid k3
  have HK0 := Lib.hid k0
  clear HO6 HG6 HL6 hx k2 k3 hby hmx
  have c0 : W1.cell? ⟨w.heap.size, 0, none⟩ = some (.slice A n c) := (by simp [World.cell?, k0])
  have d0 : W1.cell? ⟨w.heap.size + 1, 0, none⟩ = some (.int .i64 0) := (by simp [World.cell?, k1])
  have d1 : W1.cell? ⟨w.heap.size + 1, 1, none⟩ = some (.int .i64 i) := (by simp [World.cell?, k1])
  have d2 : W1.cell? ⟨w.heap.size + 1, 2, none⟩ = some (.int .i64 j) := (by simp [World.cell?, k1])
  clear k0 k1
  have HC : Hid (Calls Try.prog 28 #[.slice A n c, .int .i64 i, .slice A6 m q6] W1 (Panicked W1)) := Lib.hid (insert_out W1 A n c i _ hi)
  go_wp2_with fail
  refine HC.out.mono ?_
  rintro e w2 ⟨u, pv, rfl, hx2⟩
  have q0 := blk_ext hx2 HK0.out
  have q2 := blk_ext hx2 HK2.out
  have q3 := blk_ext hx2 HK3.out
  have HX2 := Lib.hid (HX.out.trans hx2)
  clear hx2 c0 d0 d1 d2
  have c0 : w2.cell? ⟨w.heap.size, 0, none⟩ = some (.slice A n c) := (by simp [World.cell?, q0])
  have r2 : w2.cell? ⟨w.heap.size + 1 + 1, 0, none⟩ = some (.slice none 0 0) := (by simp [World.cell?, q2])
  have r3 : w2.cell? ⟨w.heap.size + 1 + 1 + 1, 0, none⟩ = some (.bool false) := (by simp [World.cell?, q3])
  have f2 : w2.frozen? ⟨w.heap.size + 1 + 1, 0, none⟩ = false := (by simp [World.frozen?, q2])
  have f3 : w2.frozen? ⟨w.heap.size + 1 + 1 + 1, 0, none⟩ = false := (by simp [World.frozen?, q3])
  clear q0 q2 q3
  have s2 : (w2.setCell ⟨w.heap.size + 1 + 1, 0, none⟩ (.slice A n c)).cell? ⟨w.heap.size + 1 + 1, 0, none⟩ = some (.slice A n c) := World.cell?_setCell_same _ _ _ r2
  have s3 : (w2.setCell ⟨w.heap.size + 1 + 1, 0, none⟩ (.slice A n c)).cell? ⟨w.heap.size + 1 + 1 + 1, 0, none⟩ = some (.bool false) := (World.cell?_setCell_other _ _ _ _ (by simp)).trans r3
  have s4 := World.cell?_setCell_same _ _ (.bool true) s3
  have f4 : (w2.setCell ⟨w.heap.size + 1 + 1, 0, none⟩ (.slice A n c)).frozen? ⟨w.heap.size + 1 + 1 + 1, 0, none⟩ = false := (by simp [f3])
  have HED := Lib.hid (own_far (own_far (own_ext HOWN.out HX2.out) (p := ⟨w.heap.size + 1 + 1, 0, none⟩) (own_blk_ne HOWN.out (w.heap.size + 1 + 1) (by omega)) (.slice A n c)) (p := ⟨w.heap.size + 1 + 1 + 1, 0, none⟩) (own_blk_ne HOWN.out (w.heap.size + 1 + 1 + 1) (by omega)) (.bool true))
  go_wp2
  refine leaves_cons (f := 27) (args := #[.pointer (some ⟨w.heap.size, 0, none⟩), .pointer (some ⟨w.heap.size + 1 + 1, 0, none⟩), .pointer (some ⟨w.heap.size + 1 + 1 + 1, 0, none⟩)]) (by simp) (by simp [go_sem]) ?_
  refine (catch_panicking ⟨w.heap.size, 0, none⟩ ⟨w.heap.size + 1 + 1, 0, none⟩ ⟨w.heap.size + 1 + 1 + 1, 0, none⟩ A n c _ _ u pv [] _ c0 r2 f2 s3 f4).mono ?_
  rintro e u' w'' ⟨rfl, rfl, rfl⟩
  simp [Leaves, settle, results, Try.results25, go_sem, s2, s4]
  exact ed_post_out (by rw [editP_0, cutP_none (by rw [HL.out]; omega)]) HL.out HED.out (grown_far (grown_far (grown_of_ext HX2.out _) (p := ⟨w.heap.size + 1 + 1, 0, none⟩) (by show _ ≤ w.heap.size + 1 + 1; omega) _) (p := ⟨w.heap.size + 1 + 1 + 1, 0, none⟩) (by show _ ≤ w.heap.size + 1 + 1 + 1; omega) _) (show ((0 : Int) ≠ 4) by decide)

set_option maxRecDepth 100000 in
set_option maxHeartbeats 1600000 in
theorem edited_delete_out (w : World) (base : Nat) (A : Option Addr) (n c : Nat) (l : List Int) (i j : Int) (B : Option Addr) (m d : Nat) (vs : List Int) (hown : w.ownsRow base 3 1 (.slice A n c) n (ints l)) (hval : Row w 1 B m d (ints vs)) (hn : n ≤ 17592186043904) (hm : n + m ≤ 17592186043904) (hbase : base ≤ w.heap.size) (hi : ¬ (0 ≤ i ∧ i ≤ j ∧ j ≤ (n : Int))) :
    Calls Try.prog 25 #[.slice A n c, .agg #[.int .i64 1, .int .i64 i, .int .i64 j, .slice B m d]] w (EdPost w base (.slice A n c) l (1, i, j, vs)) := by
  have hmf : ∀ (fn : Fn) (first cap : Array Value) (w : World), (Instr.makeFunc fn first cap).run Try.prog w = .ok (.func fn first cap) w := fun _ _ _ _ => rfl
  have HOWN := Lib.hid hown
  have HVAL := Lib.hid hval
  have hl : l.length = n := by have := own_len1 hown; rw [ints_length] at this; exact this
  have hv : vs.length = m := hval.ints_len
  have HL := Lib.hid hl
  have HV := Lib.hid hv
  have hby : (0 + m) * 8 ≤ 140737488355328 := by omega
  have hmx : 0 + m ≤ maxLen := by unfold maxLen; omega
  have hnn : (Value.slice A n c).ownBlock = none ∨ ∃ g, (Value.slice A n c).ownBlock = some g ∧ g < w.heap.size := own_blk_lt hown
  obtain ⟨hn, hbase⟩ : n ≤ 17592186043904 ∧ base ≤ w.heap.size := ⟨hn, hbase⟩
  clear hown hval hl hv
  go_enter_defers Try.func25, Try.ntmps25
  go_wp2_with (with_reducible refine stand_at 11 ?_)
  refine Stand.mk (wpList_apps elInt rfl _ _ rfl (w.heap.size + 1 + 1 + 1 + 1) (.slice (some ⟨w.heap.size + 1 + 1 + 1 + 1, 0, none⟩) 0 0) 0 [] rfl (own_lit0' _ _ _ _ (by simp)) B m d (ints vs) rfl (HVAL.out.ext (((((Ext.refl w).alloc _).alloc _).alloc _).alloc _ |>.alloc _)) (ints_one _) hby hmx (by simp) ?_)
  intro A6 q6 W1 HO6 HG6 HL6
  obtain ⟨k0, k1, k2, k3, hx, hsz⟩ := ed_frame w W1 _ _ _ _ _ HG6.out
  have HO : Hid (W1.ownsRow (w.heap.size + 1 + 1 + 1 + 1) 3 1 (.slice A6 (0 + m) q6) (0 + m) (ints vs)) := by have := HO6.out; rw [List.nil_append] at this; exact this
  rw [Nat.zero_add] at HO ⊢
  have HX := Lib.hid hx
  have HK2 := Lib.hid k2
  have HK3 := Lib.hid k3
  have HK0 := Lib.hid k0
  clear HO6 HG6 HL6 hx k2 k3 hby hmx
  have c0 : W1.cell? ⟨w.heap.size, 0, none⟩ = some (.slice A n c) := (by simp [World.cell?, k0])
  have d0 : W1.cell? ⟨w.heap.size + 1, 0, none⟩ = some (.int .i64 1) := (by simp [World.cell?, k1])
  have d1 : W1.cell? ⟨w.heap.size + 1, 1, none⟩ = some (.int .i64 i) := (by simp [World.cell?, k1])
  have d2 : W1.cell? ⟨w.heap.size + 1, 2, none⟩ = some (.int .i64 j) := (by simp [World.cell?, k1])
  clear k0 k1
  have HC : Hid (Calls Try.prog 29 #[.slice A n c, .int .i64 i, .int .i64 j] W1 (Panicked W1)) := Lib.hid (delete_out W1 A n c i j (Row.own HOWN.out).le hi)
  go_wp2_with fail
  refine HC.out.mono ?_
  rintro e w2 ⟨u, pv, rfl, hx2⟩
  have q0 := blk_ext hx2 HK0.out
  have q2 := blk_ext hx2 HK2.out
  have q3 := blk_ext hx2 HK3.out
  have HX2 := Lib.hid (HX.out.trans hx2)
  clear hx2 c0 d0 d1 d2
  have c0 : w2.cell? ⟨w.heap.size, 0, none⟩ = some (.slice A n c) := (by simp [World.cell?, q0])
  have r2 : w2.cell? ⟨w.heap.size + 1 + 1, 0, none⟩ = some (.slice none 0 0) := (by simp [World.cell?, q2])
  have r3 : w2.cell? ⟨w.heap.size + 1 + 1 + 1, 0, none⟩ = some (.bool false) := (by simp [World.cell?, q3])
  have f2 : w2.frozen? ⟨w.heap.size + 1 + 1, 0, none⟩ = false := (by simp [World.frozen?, q2])
  have f3 : w2.frozen? ⟨w.heap.size + 1 + 1 + 1, 0, none⟩ = false := (by simp [World.frozen?, q3])
  clear q0 q2 q3
  have s2 : (w2.setCell ⟨w.heap.size + 1 + 1, 0, none⟩ (.slice A n c)).cell? ⟨w.heap.size + 1 + 1, 0, none⟩ = some (.slice A n c) := World.cell?_setCell_same _ _ _ r2
  have s3 : (w2.setCell ⟨w.heap.size + 1 + 1, 0, none⟩ (.slice A n c)).cell? ⟨w.heap.size + 1 + 1 + 1, 0, none⟩ = some (.bool false) := (World.cell?_setCell_other _ _ _ _ (by simp)).trans r3
  have s4 := World.cell?_setCell_same _ _ (.bool true) s3
  have f4 : (w2.setCell ⟨w.heap.size + 1 + 1, 0, none⟩ (.slice A n c)).frozen? ⟨w.heap.size + 1 + 1 + 1, 0, none⟩ = false := (by simp [f3])
  have HED := Lib.hid (own_far (own_far (own_ext HOWN.out HX2.out) (p := ⟨w.heap.size + 1 + 1, 0, none⟩) (own_blk_ne HOWN.out (w.heap.size + 1 + 1) (by omega)) (.slice A n c)) (p := ⟨w.heap.size + 1 + 1 + 1, 0, none⟩) (own_blk_ne HOWN.out (w.heap.size + 1 + 1 + 1) (by omega)) (.bool true))
  go_wp2
  refine leaves_cons (f := 27) (args := #[.pointer (some ⟨w.heap.size, 0, none⟩), .pointer (some ⟨w.heap.size + 1 + 1, 0, none⟩), .pointer (some ⟨w.heap.size + 1 + 1 + 1, 0, none⟩)]) (by simp) (by simp [go_sem]) ?_
  refine (catch_panicking ⟨w.heap.size, 0, none⟩ ⟨w.heap.size + 1 + 1, 0, none⟩ ⟨w.heap.size + 1 + 1 + 1, 0, none⟩ A n c _ _ u pv [] _ c0 r2 f2 s3 f4).mono ?_
  rintro e u' w'' ⟨rfl, rfl, rfl⟩
  simp [Leaves, settle, results, Try.results25, go_sem, s2, s4]
  exact ed_post_out (by rw [editP_1, cutP_none (by rw [HL.out]; exact hi)]) HL.out HED.out (grown_far (grown_far (grown_of_ext HX2.out _) (p := ⟨w.heap.size + 1 + 1, 0, none⟩) (by show _ ≤ w.heap.size + 1 + 1; omega) _) (p := ⟨w.heap.size + 1 + 1 + 1, 0, none⟩) (by show _ ≤ w.heap.size + 1 + 1 + 1; omega) _) (show ((1 : Int) ≠ 4) by decide)

set_option maxRecDepth 100000 in
set_option maxHeartbeats 1600000 in
theorem edited_replace_out (w : World) (base : Nat) (A : Option Addr) (n c : Nat) (l : List Int) (i j : Int) (B : Option Addr) (m d : Nat) (vs : List Int) (hown : w.ownsRow base 3 1 (.slice A n c) n (ints l)) (hval : Row w 1 B m d (ints vs)) (hn : n ≤ 17592186043904) (hm : n + m ≤ 17592186043904) (hbase : base ≤ w.heap.size) (hi : ¬ (0 ≤ i ∧ i ≤ j ∧ j ≤ (n : Int))) :
    Calls Try.prog 25 #[.slice A n c, .agg #[.int .i64 2, .int .i64 i, .int .i64 j, .slice B m d]] w (EdPost w base (.slice A n c) l (2, i, j, vs)) := by
  have hmf : ∀ (fn : Fn) (first cap : Array Value) (w : World), (Instr.makeFunc fn first cap).run Try.prog w = .ok (.func fn first cap) w := fun _ _ _ _ => rfl
  have HOWN := Lib.hid hown
  have HVAL := Lib.hid hval
  have hl : l.length = n := by have := own_len1 hown; rw [ints_length] at this; exact this
  have hv : vs.length = m := hval.ints_len
  have HL := Lib.hid hl
  have HV := Lib.hid hv
  have hby : (0 + m) * 8 ≤ 140737488355328 := by omega
  have hmx : 0 + m ≤ maxLen := by unfold maxLen; omega
  have hnn : (Value.slice A n c).ownBlock = none ∨ ∃ g, (Value.slice A n c).ownBlock = some g ∧ g < w.heap.size := own_blk_lt hown
  obtain ⟨hn, hbase⟩ : n ≤ 17592186043904 ∧ base ≤ w.heap.size := ⟨hn, hbase⟩
  clear hown hval hl hv
  go_enter_defers Try.func25, Try.ntmps25
  go_wp2_with (with_reducible refine stand_at 11 ?_)
  refine Stand.mk (wpList_apps elInt rfl _ _ rfl (w.heap.size + 1 + 1 + 1 + 1) (.slice (some ⟨w.heap.size + 1 + 1 + 1 + 1, 0, none⟩) 0 0) 0 [] rfl (own_lit0' _ _ _ _ (by simp)) B m d (ints vs) rfl (HVAL.out.ext (((((Ext.refl w).alloc _).alloc _).alloc _).alloc _ |>.alloc _)) (ints_one _) hby hmx (by simp) ?_)
  intro A6 q6 W1 HO6 HG6 HL6
  obtain ⟨k0, k1, k2, k3, hx, hsz⟩ := ed_frame w W1 _ _ _ _ _ HG6.out
  have HO : Hid (W1.ownsRow (w.heap.size + 1 + 1 + 1 + 1) 3 1 (.slice A6 (0 + m) q6) (0 + m) (ints vs)) := by have := HO6.out; rw [List.nil_append] at this; exact this
  rw [Nat.zero_add] at HO ⊢
  have HX := Lib.hid hx
  have HK2 := Lib.hid k2
  have HK3 := Lib.hid k3
  have HK0 := Lib.hid k0
  clear HO6 HG6 HL6 hx k2 k3 hby hmx
  have c0 : W1.cell? ⟨w.heap.size, 0, none⟩ = some (.slice A n c) := (by simp [World.cell?, k0])
  have d0 : W1.cell? ⟨w.heap.size + 1, 0, none⟩ = some (.int .i64 2) := (by simp [World.cell?, k1])
  have d1 : W1.cell? ⟨w.heap.size + 1, 1, none⟩ = some (.int .i64 i) := (by simp [World.cell?, k1])
  have d2 : W1.cell? ⟨w.heap.size + 1, 2, none⟩ = some (.int .i64 j) := (by simp [World.cell?, k1])
  clear k0 k1
  have HC : Hid (Calls Try.prog 30 #[.slice A n c, .int .i64 i, .int .i64 j, .slice A6 m q6] W1 (Panicked W1)) := Lib.hid (replace_out W1 A n c i j A6 m q6 hi)
  go_wp2_with fail
  refine HC.out.mono ?_
  rintro e w2 ⟨u, pv, rfl, hx2⟩
  have q0 := blk_ext hx2 HK0.out
  have q2 := blk_ext hx2 HK2.out
  have q3 := blk_ext hx2 HK3.out
  have HX2 := Lib.hid (HX.out.trans hx2)
  clear hx2 c0 d0 d1 d2
  have c0 : w2.cell? ⟨w.heap.size, 0, none⟩ = some (.slice A n c) := (by simp [World.cell?, q0])
  have r2 : w2.cell? ⟨w.heap.size + 1 + 1, 0, none⟩ = some (.slice none 0 0) := (by simp [World.cell?, q2])
  have r3 : w2.cell? ⟨w.heap.size + 1 + 1 + 1, 0, none⟩ = some (.bool false) := (by simp [World.cell?, q3])
  have f2 : w2.frozen? ⟨w.heap.size + 1 + 1, 0, none⟩ = false := (by simp [World.frozen?, q2])
  have f3 : w2.frozen? ⟨w.heap.size + 1 + 1 + 1, 0, none⟩ = false := (by simp [World.frozen?, q3])
  clear q0 q2 q3
  have s2 : (w2.setCell ⟨w.heap.size + 1 + 1, 0, none⟩ (.slice A n c)).cell? ⟨w.heap.size + 1 + 1, 0, none⟩ = some (.slice A n c) := World.cell?_setCell_same _ _ _ r2
  have s3 : (w2.setCell ⟨w.heap.size + 1 + 1, 0, none⟩ (.slice A n c)).cell? ⟨w.heap.size + 1 + 1 + 1, 0, none⟩ = some (.bool false) := (World.cell?_setCell_other _ _ _ _ (by simp)).trans r3
  have s4 := World.cell?_setCell_same _ _ (.bool true) s3
  have f4 : (w2.setCell ⟨w.heap.size + 1 + 1, 0, none⟩ (.slice A n c)).frozen? ⟨w.heap.size + 1 + 1 + 1, 0, none⟩ = false := (by simp [f3])
  have HED := Lib.hid (own_far (own_far (own_ext HOWN.out HX2.out) (p := ⟨w.heap.size + 1 + 1, 0, none⟩) (own_blk_ne HOWN.out (w.heap.size + 1 + 1) (by omega)) (.slice A n c)) (p := ⟨w.heap.size + 1 + 1 + 1, 0, none⟩) (own_blk_ne HOWN.out (w.heap.size + 1 + 1 + 1) (by omega)) (.bool true))
  go_wp2
  refine leaves_cons (f := 27) (args := #[.pointer (some ⟨w.heap.size, 0, none⟩), .pointer (some ⟨w.heap.size + 1 + 1, 0, none⟩), .pointer (some ⟨w.heap.size + 1 + 1 + 1, 0, none⟩)]) (by simp) (by simp [go_sem]) ?_
  refine (catch_panicking ⟨w.heap.size, 0, none⟩ ⟨w.heap.size + 1 + 1, 0, none⟩ ⟨w.heap.size + 1 + 1 + 1, 0, none⟩ A n c _ _ u pv [] _ c0 r2 f2 s3 f4).mono ?_
  rintro e u' w'' ⟨rfl, rfl, rfl⟩
  simp [Leaves, settle, results, Try.results25, go_sem, s2, s4]
  exact ed_post_out (by rw [editP_2, cutP_none (by rw [HL.out]; exact hi)]) HL.out HED.out (grown_far (grown_far (grown_of_ext HX2.out _) (p := ⟨w.heap.size + 1 + 1, 0, none⟩) (by show _ ≤ w.heap.size + 1 + 1; omega) _) (p := ⟨w.heap.size + 1 + 1 + 1, 0, none⟩) (by show _ ≤ w.heap.size + 1 + 1 + 1; omega) _) (show ((2 : Int) ≠ 4) by decide)

set_option maxRecDepth 100000 in
set_option maxHeartbeats 1600000 in
theorem edited_other (w : World) (base : Nat) (A : Option Addr) (n c : Nat) (l : List Int) (i j : Int) (B : Option Addr) (m d : Nat) (vs : List Int) (hown : w.ownsRow base 3 1 (.slice A n c) n (ints l)) (hval : Row w 1 B m d (ints vs)) (hn : n ≤ 17592186043904) (hm : n + m ≤ 17592186043904) (hbase : base ≤ w.heap.size) (k : Int) (h0 : (k == 0) = false) (h1 : (k == 1) = false) (h2 : (k == 2) = false) (h3 : (k == 3) = false) (h4 : (k == 4) = false) :
    Calls Try.prog 25 #[.slice A n c, .agg #[.int .i64 k, .int .i64 i, .int .i64 j, .slice B m d]] w (EdPost w base (.slice A n c) l (k, i, j, vs)) := by
  have hmf : ∀ (fn : Fn) (first cap : Array Value) (w : World), (Instr.makeFunc fn first cap).run Try.prog w = .ok (.func fn first cap) w := fun _ _ _ _ => rfl
  have HOWN := Lib.hid hown
  have HVAL := Lib.hid hval
  have hl : l.length = n := by have := own_len1 hown; rw [ints_length] at this; exact this
  have hv : vs.length = m := hval.ints_len
  have HL := Lib.hid hl
  have HV := Lib.hid hv
  have hby : (0 + m) * 8 ≤ 140737488355328 := by omega
  have hmx : 0 + m ≤ maxLen := by unfold maxLen; omega
  have hnn : (Value.slice A n c).ownBlock = none ∨ ∃ g, (Value.slice A n c).ownBlock = some g ∧ g < w.heap.size := own_blk_lt hown
  obtain ⟨hn, hbase⟩ : n ≤ 17592186043904 ∧ base ≤ w.heap.size := ⟨hn, hbase⟩
  clear hown hval hl hv
  go_enter_defers Try.func25, Try.ntmps25
  go_wp2_with (with_reducible refine stand_at 11 ?_)
  refine Stand.mk (wpList_apps elInt rfl _ _ rfl (w.heap.size + 1 + 1 + 1 + 1) (.slice (some ⟨w.heap.size + 1 + 1 + 1 + 1, 0, none⟩) 0 0) 0 [] rfl (own_lit0' _ _ _ _ (by simp)) B m d (ints vs) rfl (HVAL.out.ext (((((Ext.refl w).alloc _).alloc _).alloc _).alloc _ |>.alloc _)) (ints_one _) hby hmx (by simp) ?_)
  intro A6 q6 W1 HO6 HG6 HL6
  obtain ⟨k0, k1, k2, k3, hx, hsz⟩ := ed_frame w W1 _ _ _ _ _ HG6.out
  have HO : Hid (W1.ownsRow (w.heap.size + 1 + 1 + 1 + 1) 3 1 (.slice A6 (0 + m) q6) (0 + m) (ints vs)) := by have := HO6.out; rw [List.nil_append] at this; exact this
  rw [Nat.zero_add] at HO ⊢
  have HX := Lib.hid hx
  have HK2 := Lib.hid k2
  have HK3 := Lib.hid k3
  have HK0 := Lib.hid k0
  clear HO6 HG6 HL6 hx k2 k3 hby hmx
  have c0 : W1.cell? ⟨w.heap.size, 0, none⟩ = some (.slice A n c) := (by simp [World.cell?, k0])
  have d0 : W1.cell? ⟨w.heap.size + 1, 0, none⟩ = some (.int .i64 k) := (by simp [World.cell?, k1])
  have d1 : W1.cell? ⟨w.heap.size + 1, 1, none⟩ = some (.int .i64 i) := (by simp [World.cell?, k1])
  have d2 : W1.cell? ⟨w.heap.size + 1, 2, none⟩ = some (.int .i64 j) := (by simp [World.cell?, k1])
  clear k0 k1
  have r2 : W1.cell? ⟨w.heap.size + 1 + 1, 0, none⟩ = some (.slice none 0 0) := (by simp [World.cell?, HK2.out])
  have r3 : W1.cell? ⟨w.heap.size + 1 + 1 + 1, 0, none⟩ = some (.bool false) := (by simp [World.cell?, HK3.out])
  have f2 : W1.frozen? ⟨w.heap.size + 1 + 1, 0, none⟩ = false := (by simp [World.frozen?, HK2.out])
  have f3 : W1.frozen? ⟨w.heap.size + 1 + 1 + 1, 0, none⟩ = false := (by simp [World.frozen?, HK3.out])
  have HED := Lib.hid (own_far (own_far (own_ext HOWN.out HX.out) (p := ⟨w.heap.size + 1 + 1, 0, none⟩) (own_blk_ne HOWN.out (w.heap.size + 1 + 1) (by omega)) (.slice A n c)) (p := ⟨w.heap.size + 1 + 1 + 1, 0, none⟩) (own_blk_ne HOWN.out (w.heap.size + 1 + 1 + 1) (by omega)) (.bool false))
  go_wp2
  refine leaves_cons (f := 27) (args := #[.pointer (some ⟨w.heap.size, 0, none⟩), .pointer (some ⟨w.heap.size + 1 + 1, 0, none⟩), .pointer (some ⟨w.heap.size + 1 + 1 + 1, 0, none⟩)]) (by simp) (by simp [go_sem]) ?_
  refine (catch_idle _ _ _ _).mono ?_
  rintro e u' w'' ⟨rfl, rfl, rfl⟩
  have s2 : (W1.setCell ⟨w.heap.size + 1 + 1, 0, none⟩ (.slice A n c)).cell? ⟨w.heap.size + 1 + 1, 0, none⟩ = some (.slice A n c) := World.cell?_setCell_same _ _ _ r2
  have s3 : (W1.setCell ⟨w.heap.size + 1 + 1, 0, none⟩ (.slice A n c)).cell? ⟨w.heap.size + 1 + 1 + 1, 0, none⟩ = some (.bool false) := (World.cell?_setCell_other _ _ _ _ (by simp)).trans r3
  have s4 := World.cell?_setCell_same _ _ (.bool false) s3
  simp [Leaves, settle, results, Try.results25, go_sem, s2, s4]
  have h0' : ¬ k = 0 := by simpa using h0
  have h1' : ¬ k = 1 := by simpa using h1
  have h2' : ¬ k = 2 := by simpa using h2
  have h3' : ¬ k = 3 := by simpa using h3
  have h4' : ¬ k = 4 := by simpa using h4
  exact ed_post (r := l) (stay := True) (by simp [editP, h0', h1', h2', h3', h4']) HL.out HED.out (grown_far (grown_far (grown_of_ext HX.out _) (p := ⟨w.heap.size + 1 + 1, 0, none⟩) (by show _ ≤ w.heap.size + 1 + 1; omega) _) (p := ⟨w.heap.size + 1 + 1 + 1, 0, none⟩) (by show _ ≤ w.heap.size + 1 + 1 + 1; omega) _) (.inl rfl) (fun _ => rfl) (fun _ => trivial) (fun h => absurd h h4')

end Go.Proofs.Ytaimljagflnfpaa
