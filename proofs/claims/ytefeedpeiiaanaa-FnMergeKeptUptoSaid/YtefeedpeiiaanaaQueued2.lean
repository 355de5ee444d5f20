/- The contract of impl.queued, kind by kind: one step on a heap. No statement of the seat is proved here. -/
import Derived.Test.YtefeedpeiiaanaaQueued1
namespace Go.Proofs.Ytefeedpeiiaanaa
open Go.RowKit

set_option maxRecDepth 100000 in
set_option maxHeartbeats 1600000 in
theorem queued_push (w : World) (base p n : Nat) (v : Value) (L : List (Int × Int)) (x1 x2 y : Int) (h : HSt w base p n v L) (hs : n ≤ 1099511620000) (hbase : base ≤ w.heap.size) :
    Calls Try.prog 23 #[.pointer (some ⟨p, 0, none⟩), .agg #[.int .i64 0, .int .i64 x1, .int .i64 x2, .int .i64 y]] w (QPost w base p v (pushL L (x1, x2)) (x1, x2) true) := by
  obtain ⟨A, c, rfl, -⟩ := h.form
  have HO := Lib.hid (own2_new w 0 x1 x2 y)
  have HX0 : Hid (Ext w ((w.alloc (.cells #[.int .i64 0, .int .i64 x1, .int .i64 x2, .int .i64 y] 30)).alloc (.cells #[.int .i64 0, .int .i64 0] 28))) := Lib.hid (((Ext.refl w).alloc _).alloc _)
  have HH := Lib.hid h
  clear h
  go_enter Try.func23, Try.ntmps23
  go_wp2
  generalize (w.alloc (.cells #[.int .i64 0, .int .i64 x1, .int .i64 x2, .int .i64 y] 30)).alloc (.cells #[.int .i64 0, .int .i64 0] 28) = W0 at HO HX0
  have c0 := HO.out.s1
  have c1 := HO.out.s2
  have c2 := (HH.out.ext HX0.out).cell
  go_region_held3 (fun w' => w'.cell? ⟨w.heap.size, 1, none⟩ = some (.int .i64 x1) ∧ w'.cell? ⟨w.heap.size, 1 + 1, none⟩ = some (.int .i64 x2) ∧ w'.cell? ⟨p, 0, none⟩ = some (.slice A n c))
    (first | exact ⟨hx1.cell_some c0, hx1.cell_some c1, hx1.cell_some c2⟩ | exact ⟨c0, c1, c2⟩)
    ((go_at_call 29; refine (index_ok A n c L x1 x2 _ ((Row.own HH.out.own).ext HX0.out.drew)).mono ?_; rintro e w1 ⟨rfl, hx1⟩))
  have HO1 := Lib.hid (HO.out.ext ((Ext.refl W0).drew.trans hx1))
  have HX1 : Hid (Ext w w1) := Lib.hid (HX0.out.trans ((Ext.refl W0).drew.trans hx1))
  have HH1 := Lib.hid (HH.out.ext HX1.out)
  clear c0 c1 c2 hx1
  have s0 := HO1.out.s0
  have s1 := HO1.out.s1
  have s2 := HO1.out.s2
  go_wp2_with fail
  refine (hpush_ok w1 base p n _ L x1 x2 HH1.out (by omega) (Nat.le_trans hbase HX1.out.size)).mono ?_
  rintro e w2 ⟨rfl, v', hh2, hg2, hm2⟩
  clear s0 s1 s2
  have HO2 := Lib.hid (HO1.out.grown HH.out hg2)
  have HE := Lib.hid (qdone HH.out HX1.out HO1.out hh2 hg2 hm2)
  clear hh2 hg2 hm2
  have s1 := HO2.out.s1
  have s2 := HO2.out.s2
  have s3 := HO2.out.s3
  have r0 := HO2.out.r0
  have r1 := HO2.out.r1
  have f0 := HO2.out.f0
  have f1 := HO2.out.f1
  go_wp2
  exact bodyPost_ret (v := .tuple #[.agg #[.int .i64 x1, .int .i64 x2], .bool true]) (by simp [results, Try.results23, go_sem, r0, r1]) rfl ⟨rfl, HE.out _ _⟩


set_option maxRecDepth 100000 in
set_option maxHeartbeats 1600000 in
theorem queued_pop (w : World) (base p n : Nat) (v : Value) (L : List (Int × Int)) (x1 x2 y : Int) (h : HSt w base p n v L) (hs : n ≤ 1099511620000) (hn : 0 < n) :
    Calls Try.prog 23 #[.pointer (some ⟨p, 0, none⟩), .agg #[.int .i64 1, .int .i64 x1, .int .i64 x2, .int .i64 y]] w (QPost w base p v ((popL L).take (L.length - 1)) (at0 L 0) true) := by
  obtain ⟨A, c, rfl, -⟩ := h.form
  have HO := Lib.hid (own2_new w 1 x1 x2 y)
  have HX0 : Hid (Ext w ((w.alloc (.cells #[.int .i64 1, .int .i64 x1, .int .i64 x2, .int .i64 y] 30)).alloc (.cells #[.int .i64 0, .int .i64 0] 28))) := Lib.hid (((Ext.refl w).alloc _).alloc _)
  have HH := Lib.hid h
  clear h
  go_enter Try.func23, Try.ntmps23
  go_wp2
  generalize (w.alloc (.cells #[.int .i64 1, .int .i64 x1, .int .i64 x2, .int .i64 y] 30)).alloc (.cells #[.int .i64 0, .int .i64 0] 28) = W0 at HO HX0
  have c0 := HO.out.s1
  have c1 := HO.out.s2
  have c2 := (HH.out.ext HX0.out).cell
  go_region_held3 (fun w' => w'.cell? ⟨w.heap.size, 1, none⟩ = some (.int .i64 x1) ∧ w'.cell? ⟨w.heap.size, 1 + 1, none⟩ = some (.int .i64 x2) ∧ w'.cell? ⟨p, 0, none⟩ = some (.slice A n c))
    (first | exact ⟨hx1.cell_some c0, hx1.cell_some c1, hx1.cell_some c2⟩ | exact ⟨c0, c1, c2⟩)
    ((go_at_call 29; refine (index_ok A n c L x1 x2 _ ((Row.own HH.out.own).ext HX0.out.drew)).mono ?_; rintro e w1 ⟨rfl, hx1⟩))
  have HO1 := Lib.hid (HO.out.ext ((Ext.refl W0).drew.trans hx1))
  have HX1 : Hid (Ext w w1) := Lib.hid (HX0.out.trans ((Ext.refl W0).drew.trans hx1))
  have HH1 := Lib.hid (HH.out.ext HX1.out)
  clear c0 c1 c2 hx1
  have s0 := HO1.out.s0
  have cp := HH1.out.cell
  have hta := assert_item
  go_wp2_with fail
  refine (hpop_ok w1 base p n _ L HH1.out hn (by omega)).mono ?_
  rintro e w2 ⟨rfl, v', hh2, hg2, hm2⟩
  clear s0 cp
  have HO2 := Lib.hid (HO1.out.grown HH.out hg2)
  have HE := Lib.hid (qdone HH.out HX1.out HO1.out hh2 hg2 hm2)
  clear hh2 hg2 hm2
  have s1 := HO2.out.s1
  have s2 := HO2.out.s2
  have s3 := HO2.out.s3
  have r0 := HO2.out.r0
  have r1 := HO2.out.r1
  have f0 := HO2.out.f0
  have f1 := HO2.out.f1
  go_wp2
  exact bodyPost_ret (v := .tuple #[.agg #[.int .i64 (at0 L 0).1, .int .i64 (at0 L 0).2], .bool true]) (by simp [results, Try.results23, go_sem, r0, r1]) rfl ⟨rfl, HE.out _ _⟩


set_option maxRecDepth 100000 in
set_option maxHeartbeats 1600000 in
theorem queued_pop_none (w : World) (base p : Nat) (v : Value) (L : List (Int × Int)) (x1 x2 y : Int) (h : HSt w base p 0 v L) :
    Calls Try.prog 23 #[.pointer (some ⟨p, 0, none⟩), .agg #[.int .i64 1, .int .i64 x1, .int .i64 x2, .int .i64 y]] w (QPost w base p v L (0, 0) false) := by
  obtain ⟨A, c, rfl, -⟩ := h.form
  have HO := Lib.hid (own2_new w 1 x1 x2 y)
  have HX0 : Hid (Ext w ((w.alloc (.cells #[.int .i64 1, .int .i64 x1, .int .i64 x2, .int .i64 y] 30)).alloc (.cells #[.int .i64 0, .int .i64 0] 28))) := Lib.hid (((Ext.refl w).alloc _).alloc _)
  have HH := Lib.hid h
  clear h
  go_enter Try.func23, Try.ntmps23
  go_wp2
  generalize (w.alloc (.cells #[.int .i64 1, .int .i64 x1, .int .i64 x2, .int .i64 y] 30)).alloc (.cells #[.int .i64 0, .int .i64 0] 28) = W0 at HO HX0
  have c0 := HO.out.s1
  have c1 := HO.out.s2
  have c2 := (HH.out.ext HX0.out).cell
  go_region_held3 (fun w' => w'.cell? ⟨w.heap.size, 1, none⟩ = some (.int .i64 x1) ∧ w'.cell? ⟨w.heap.size, 1 + 1, none⟩ = some (.int .i64 x2) ∧ w'.cell? ⟨p, 0, none⟩ = some (.slice A 0 c))
    (first | exact ⟨hx1.cell_some c0, hx1.cell_some c1, hx1.cell_some c2⟩ | exact ⟨c0, c1, c2⟩)
    ((go_at_call 29; refine (index_ok A 0 c L x1 x2 _ ((Row.own HH.out.own).ext HX0.out.drew)).mono ?_; rintro e w1 ⟨rfl, hx1⟩))
  have HO1 := Lib.hid (HO.out.ext ((Ext.refl W0).drew.trans hx1))
  have HX1 : Hid (Ext w w1) := Lib.hid (HX0.out.trans ((Ext.refl W0).drew.trans hx1))
  have HH1 := Lib.hid (HH.out.ext HX1.out)
  clear c0 c1 c2 hx1
  have s0 := HO1.out.s0
  have cp := HH1.out.cell
  have HO2 := HO1
  have HE := Lib.hid (qdone HH.out HX1.out HO1.out HH1.out (Grown2.refl w1 p _) (.inl rfl))
  have s1 := HO2.out.s1
  have s2 := HO2.out.s2
  have s3 := HO2.out.s3
  have r0 := HO2.out.r0
  have r1 := HO2.out.r1
  have f0 := HO2.out.f0
  have f1 := HO2.out.f1
  go_wp2
  exact bodyPost_ret (v := .tuple #[.agg #[.int .i64 0, .int .i64 0], .bool false]) (by simp [results, Try.results23, go_sem, r0, r1]) rfl ⟨rfl, HE.out _ _⟩


set_option maxRecDepth 100000 in
set_option maxHeartbeats 1600000 in
theorem queued_out2 (w : World) (base p n : Nat) (v : Value) (L : List (Int × Int)) (x1 x2 y : Int) (h : HSt w base p n v L) (hm : (x1, x2) ∉ L) :
    Calls Try.prog 23 #[.pointer (some ⟨p, 0, none⟩), .agg #[.int .i64 2, .int .i64 x1, .int .i64 x2, .int .i64 y]] w (QPost w base p v L (0, 0) false) := by
  obtain ⟨A, c, rfl, -⟩ := h.form
  have HO := Lib.hid (own2_new w 2 x1 x2 y)
  have HX0 : Hid (Ext w ((w.alloc (.cells #[.int .i64 2, .int .i64 x1, .int .i64 x2, .int .i64 y] 30)).alloc (.cells #[.int .i64 0, .int .i64 0] 28))) := Lib.hid (((Ext.refl w).alloc _).alloc _)
  have HH := Lib.hid h
  clear h
  go_enter Try.func23, Try.ntmps23
  go_wp2
  generalize (w.alloc (.cells #[.int .i64 2, .int .i64 x1, .int .i64 x2, .int .i64 y] 30)).alloc (.cells #[.int .i64 0, .int .i64 0] 28) = W0 at HO HX0
  have c0 := HO.out.s1
  have c1 := HO.out.s2
  have c2 := (HH.out.ext HX0.out).cell
  go_region_held3 (fun w' => w'.cell? ⟨w.heap.size, 1, none⟩ = some (.int .i64 x1) ∧ w'.cell? ⟨w.heap.size, 1 + 1, none⟩ = some (.int .i64 x2) ∧ w'.cell? ⟨p, 0, none⟩ = some (.slice A n c))
    (first | exact ⟨hx1.cell_some c0, hx1.cell_some c1, hx1.cell_some c2⟩ | exact ⟨c0, c1, c2⟩)
    ((go_at_call 29; refine (index_ok A n c L x1 x2 _ ((Row.own HH.out.own).ext HX0.out.drew)).mono ?_; rintro e w1 ⟨rfl, hx1⟩))
  have HO1 := Lib.hid (HO.out.ext ((Ext.refl W0).drew.trans hx1))
  have HX1 : Hid (Ext w w1) := Lib.hid (HX0.out.trans ((Ext.refl W0).drew.trans hx1))
  have HH1 := Lib.hid (HH.out.ext HX1.out)
  clear c0 c1 c2 hx1
  have s0 := HO1.out.s0
  have hq : qidx L (x1, x2) = -1 := by rw [qidx, if_neg hm]
  rw [hq]
  clear hq
  have HO2 := HO1
  have HE := Lib.hid (qdone HH.out HX1.out HO1.out HH1.out (Grown2.refl w1 p _) (.inl rfl))
  have s1 := HO2.out.s1
  have s2 := HO2.out.s2
  have s3 := HO2.out.s3
  have r0 := HO2.out.r0
  have r1 := HO2.out.r1
  have f0 := HO2.out.f0
  have f1 := HO2.out.f1
  go_wp2
  exact bodyPost_ret (v := .tuple #[.agg #[.int .i64 0, .int .i64 0], .bool false]) (by simp [results, Try.results23, go_sem, r0, r1]) rfl ⟨rfl, HE.out _ _⟩


set_option maxRecDepth 100000 in
set_option maxHeartbeats 1600000 in
theorem queued_out3 (w : World) (base p n : Nat) (v : Value) (L : List (Int × Int)) (x1 x2 y : Int) (h : HSt w base p n v L) (hm : (x1, x2) ∉ L) :
    Calls Try.prog 23 #[.pointer (some ⟨p, 0, none⟩), .agg #[.int .i64 3, .int .i64 x1, .int .i64 x2, .int .i64 y]] w (QPost w base p v L (0, 0) false) := by
  obtain ⟨A, c, rfl, -⟩ := h.form
  have HO := Lib.hid (own2_new w 3 x1 x2 y)
  have HX0 : Hid (Ext w ((w.alloc (.cells #[.int .i64 3, .int .i64 x1, .int .i64 x2, .int .i64 y] 30)).alloc (.cells #[.int .i64 0, .int .i64 0] 28))) := Lib.hid (((Ext.refl w).alloc _).alloc _)
  have HH := Lib.hid h
  clear h
  go_enter Try.func23, Try.ntmps23
  go_wp2
  generalize (w.alloc (.cells #[.int .i64 3, .int .i64 x1, .int .i64 x2, .int .i64 y] 30)).alloc (.cells #[.int .i64 0, .int .i64 0] 28) = W0 at HO HX0
  have c0 := HO.out.s1
  have c1 := HO.out.s2
  have c2 := (HH.out.ext HX0.out).cell
  go_region_held3 (fun w' => w'.cell? ⟨w.heap.size, 1, none⟩ = some (.int .i64 x1) ∧ w'.cell? ⟨w.heap.size, 1 + 1, none⟩ = some (.int .i64 x2) ∧ w'.cell? ⟨p, 0, none⟩ = some (.slice A n c))
    (first | exact ⟨hx1.cell_some c0, hx1.cell_some c1, hx1.cell_some c2⟩ | exact ⟨c0, c1, c2⟩)
    ((go_at_call 29; refine (index_ok A n c L x1 x2 _ ((Row.own HH.out.own).ext HX0.out.drew)).mono ?_; rintro e w1 ⟨rfl, hx1⟩))
  have HO1 := Lib.hid (HO.out.ext ((Ext.refl W0).drew.trans hx1))
  have HX1 : Hid (Ext w w1) := Lib.hid (HX0.out.trans ((Ext.refl W0).drew.trans hx1))
  have HH1 := Lib.hid (HH.out.ext HX1.out)
  clear c0 c1 c2 hx1
  have s0 := HO1.out.s0
  have hq : qidx L (x1, x2) = -1 := by rw [qidx, if_neg hm]
  rw [hq]
  clear hq
  have HO2 := HO1
  have HE := Lib.hid (qdone HH.out HX1.out HO1.out HH1.out (Grown2.refl w1 p _) (.inl rfl))
  have s1 := HO2.out.s1
  have s2 := HO2.out.s2
  have s3 := HO2.out.s3
  have r0 := HO2.out.r0
  have r1 := HO2.out.r1
  have f0 := HO2.out.f0
  have f1 := HO2.out.f1
  go_wp2
  exact bodyPost_ret (v := .tuple #[.agg #[.int .i64 0, .int .i64 0], .bool false]) (by simp [results, Try.results23, go_sem, r0, r1]) rfl ⟨rfl, HE.out _ _⟩


set_option maxRecDepth 100000 in
set_option maxHeartbeats 1600000 in
theorem queued_init (w : World) (base p n : Nat) (v : Value) (L : List (Int × Int)) (x1 x2 y : Int) (h : HSt w base p n v L) (hs : n ≤ 1099511620000) :
    Calls Try.prog 23 #[.pointer (some ⟨p, 0, none⟩), .agg #[.int .i64 4, .int .i64 x1, .int .i64 x2, .int .i64 y]] w (QPost w base p v (initL L) (0, 0) true) := by
  obtain ⟨A, c, rfl, -⟩ := h.form
  have HO := Lib.hid (own2_new w 4 x1 x2 y)
  have HX0 : Hid (Ext w ((w.alloc (.cells #[.int .i64 4, .int .i64 x1, .int .i64 x2, .int .i64 y] 30)).alloc (.cells #[.int .i64 0, .int .i64 0] 28))) := Lib.hid (((Ext.refl w).alloc _).alloc _)
  have HH := Lib.hid h
  clear h
  go_enter Try.func23, Try.ntmps23
  go_wp2
  generalize (w.alloc (.cells #[.int .i64 4, .int .i64 x1, .int .i64 x2, .int .i64 y] 30)).alloc (.cells #[.int .i64 0, .int .i64 0] 28) = W0 at HO HX0
  have c0 := HO.out.s1
  have c1 := HO.out.s2
  have c2 := (HH.out.ext HX0.out).cell
  go_region_held3 (fun w' => w'.cell? ⟨w.heap.size, 1, none⟩ = some (.int .i64 x1) ∧ w'.cell? ⟨w.heap.size, 1 + 1, none⟩ = some (.int .i64 x2) ∧ w'.cell? ⟨p, 0, none⟩ = some (.slice A n c))
    (first | exact ⟨hx1.cell_some c0, hx1.cell_some c1, hx1.cell_some c2⟩ | exact ⟨c0, c1, c2⟩)
    ((go_at_call 29; refine (index_ok A n c L x1 x2 _ ((Row.own HH.out.own).ext HX0.out.drew)).mono ?_; rintro e w1 ⟨rfl, hx1⟩))
  have HO1 := Lib.hid (HO.out.ext ((Ext.refl W0).drew.trans hx1))
  have HX1 : Hid (Ext w w1) := Lib.hid (HX0.out.trans ((Ext.refl W0).drew.trans hx1))
  have HH1 := Lib.hid (HH.out.ext HX1.out)
  clear c0 c1 c2 hx1
  have s0 := HO1.out.s0
  go_wp2_with fail
  refine (hinit_ok w1 base p n _ L HH1.out (by omega)).mono ?_
  rintro e w2 ⟨rfl, hh2, hg2⟩
  clear s0
  have HO2 := Lib.hid (HO1.out.grown HH.out (Grown2.of hg2 p))
  have HE := Lib.hid (qdone HH.out HX1.out HO1.out hh2 (Grown2.of hg2 p) (.inl rfl))
  clear hh2 hg2
  have s1 := HO2.out.s1
  have s2 := HO2.out.s2
  have s3 := HO2.out.s3
  have r0 := HO2.out.r0
  have r1 := HO2.out.r1
  have f0 := HO2.out.f0
  have f1 := HO2.out.f1
  go_wp2
  exact bodyPost_ret (v := .tuple #[.agg #[.int .i64 0, .int .i64 0], .bool true]) (by simp [results, Try.results23, go_sem, r0, r1]) rfl ⟨rfl, HE.out _ _⟩


set_option maxRecDepth 100000 in
set_option maxHeartbeats 1600000 in
theorem queued_other (w : World) (base p n : Nat) (v : Value) (L : List (Int × Int)) (k x1 x2 y : Int) (k0 : (k == 0) = false) (k1 : (k == 1) = false) (k2 : (k == 2) = false) (k3 : (k == 3) = false) (k4 : (k == 4) = false) (h : HSt w base p n v L) :
    Calls Try.prog 23 #[.pointer (some ⟨p, 0, none⟩), .agg #[.int .i64 k, .int .i64 x1, .int .i64 x2, .int .i64 y]] w (QPost w base p v L (0, 0) false) := by
  obtain ⟨A, c, rfl, -⟩ := h.form
  have HO := Lib.hid (own2_new w k x1 x2 y)
  have HX0 : Hid (Ext w ((w.alloc (.cells #[.int .i64 k, .int .i64 x1, .int .i64 x2, .int .i64 y] 30)).alloc (.cells #[.int .i64 0, .int .i64 0] 28))) := Lib.hid (((Ext.refl w).alloc _).alloc _)
  have HH := Lib.hid h
  clear h
  go_enter Try.func23, Try.ntmps23
  go_wp2
  generalize (w.alloc (.cells #[.int .i64 k, .int .i64 x1, .int .i64 x2, .int .i64 y] 30)).alloc (.cells #[.int .i64 0, .int .i64 0] 28) = W0 at HO HX0
  have c0 := HO.out.s1
  have c1 := HO.out.s2
  have c2 := (HH.out.ext HX0.out).cell
  go_region_held3 (fun w' => w'.cell? ⟨w.heap.size, 1, none⟩ = some (.int .i64 x1) ∧ w'.cell? ⟨w.heap.size, 1 + 1, none⟩ = some (.int .i64 x2) ∧ w'.cell? ⟨p, 0, none⟩ = some (.slice A n c))
    (first | exact ⟨hx1.cell_some c0, hx1.cell_some c1, hx1.cell_some c2⟩ | exact ⟨c0, c1, c2⟩)
    ((go_at_call 29; refine (index_ok A n c L x1 x2 _ ((Row.own HH.out.own).ext HX0.out.drew)).mono ?_; rintro e w1 ⟨rfl, hx1⟩))
  have HO1 := Lib.hid (HO.out.ext ((Ext.refl W0).drew.trans hx1))
  have HX1 : Hid (Ext w w1) := Lib.hid (HX0.out.trans ((Ext.refl W0).drew.trans hx1))
  have HH1 := Lib.hid (HH.out.ext HX1.out)
  clear c0 c1 c2 hx1
  have s0 := HO1.out.s0
  have HO2 := HO1
  have HE := Lib.hid (qdone HH.out HX1.out HO1.out HH1.out (Grown2.refl w1 p _) (.inl rfl))
  have s1 := HO2.out.s1
  have s2 := HO2.out.s2
  have s3 := HO2.out.s3
  have r0 := HO2.out.r0
  have r1 := HO2.out.r1
  have f0 := HO2.out.f0
  have f1 := HO2.out.f1
  go_wp2
  exact bodyPost_ret (v := .tuple #[.agg #[.int .i64 0, .int .i64 0], .bool false]) (by simp [results, Try.results23, go_sem, r0, r1]) rfl ⟨rfl, HE.out _ _⟩


set_option maxRecDepth 100000 in
set_option maxHeartbeats 1600000 in
theorem queued_remove (w : World) (base p n : Nat) (v : Value) (L : List (Int × Int)) (x1 x2 y : Int) (h : HSt w base p n v L) (hs : n ≤ 1099511620000) (hm : (x1, x2) ∈ L) :
    Calls Try.prog 23 #[.pointer (some ⟨p, 0, none⟩), .agg #[.int .i64 2, .int .i64 x1, .int .i64 x2, .int .i64 y]] w (QPost w base p v ((removeL L (L.idxOf (x1, x2))).take (L.length - 1)) (x1, x2) true) := by
  obtain ⟨i, hi⟩ : ∃ i, L.idxOf (x1, x2) = i := ⟨_, rfl⟩
  have hq : qidx L (x1, x2) = (i : Int) := by rw [qidx, if_pos hm, hi]
  have hil : i < n := by have := List.idxOf_lt_length_iff.2 hm; have := h.len; omega
  have hat : at0 L i = (x1, x2) := by rw [← hi]; exact at0_idxOf hm
  rw [hi]
  have HAT := Lib.hid hat
  have HQ := Lib.hid hq
  clear hq hi hat hm
  obtain ⟨A, c, rfl, -⟩ := h.form
  have HO := Lib.hid (own2_new w 2 x1 x2 y)
  have HX0 : Hid (Ext w ((w.alloc (.cells #[.int .i64 2, .int .i64 x1, .int .i64 x2, .int .i64 y] 30)).alloc (.cells #[.int .i64 0, .int .i64 0] 28))) := Lib.hid (((Ext.refl w).alloc _).alloc _)
  have HH := Lib.hid h
  clear h
  go_enter Try.func23, Try.ntmps23
  go_wp2
  generalize (w.alloc (.cells #[.int .i64 2, .int .i64 x1, .int .i64 x2, .int .i64 y] 30)).alloc (.cells #[.int .i64 0, .int .i64 0] 28) = W0 at HO HX0
  have c0 := HO.out.s1
  have c1 := HO.out.s2
  have c2 := (HH.out.ext HX0.out).cell
  go_region_held3 (fun w' => w'.cell? ⟨w.heap.size, 1, none⟩ = some (.int .i64 x1) ∧ w'.cell? ⟨w.heap.size, 1 + 1, none⟩ = some (.int .i64 x2) ∧ w'.cell? ⟨p, 0, none⟩ = some (.slice A n c))
    (first | exact ⟨hx1.cell_some c0, hx1.cell_some c1, hx1.cell_some c2⟩ | exact ⟨c0, c1, c2⟩)
    ((go_at_call 29; refine (index_ok A n c L x1 x2 _ ((Row.own HH.out.own).ext HX0.out.drew)).mono ?_; rintro e w1 ⟨rfl, hx1⟩))
  have HO1 := Lib.hid (HO.out.ext ((Ext.refl W0).drew.trans hx1))
  have HX1 : Hid (Ext w w1) := Lib.hid (HX0.out.trans ((Ext.refl W0).drew.trans hx1))
  have HH1 := Lib.hid (HH.out.ext HX1.out)
  clear c0 c1 c2 hx1
  have s0 := HO1.out.s0
  rw [HQ.out]
  have hta := assert_item
  have hrm := hremove_ok w1 base p n _ L i HH1.out hil (by omega)
  rw [HAT.out] at hrm
  have HRM := Lib.hid hrm
  clear hrm
  go_wp2_with fail
  refine HRM.out.mono ?_
  rintro e w2 ⟨rfl, v', hh2, hg2, hm2⟩
  clear s0
  have HO2 := Lib.hid (HO1.out.grown HH.out hg2)
  have HE := Lib.hid (qdone HH.out HX1.out HO1.out hh2 hg2 hm2)
  clear hh2 hg2 hm2
  have s1 := HO2.out.s1
  have s2 := HO2.out.s2
  have s3 := HO2.out.s3
  have r0 := HO2.out.r0
  have r1 := HO2.out.r1
  have f0 := HO2.out.f0
  have f1 := HO2.out.f1
  go_wp2
  exact bodyPost_ret (v := .tuple #[.agg #[.int .i64 x1, .int .i64 x2], .bool true]) (by simp [results, Try.results23, go_sem, r0, r1]) rfl ⟨rfl, HE.out _ _⟩


set_option maxRecDepth 100000 in
set_option maxHeartbeats 1600000 in
theorem queued_fix (w : World) (base p n : Nat) (v : Value) (L : List (Int × Int)) (x1 x2 y : Int) (h : HSt w base p n v L) (hs : n ≤ 1099511620000) (hm : (x1, x2) ∈ L) :
    Calls Try.prog 23 #[.pointer (some ⟨p, 0, none⟩), .agg #[.int .i64 3, .int .i64 x1, .int .i64 x2, .int .i64 y]] w (QPost w base p v (fixAt (L.set (L.idxOf (x1, x2)) (y, x2)) (L.idxOf (x1, x2)) L.length) (y, x2) true) := by
  obtain ⟨i, hi⟩ : ∃ i, L.idxOf (x1, x2) = i := ⟨_, rfl⟩
  have hq : qidx L (x1, x2) = (i : Int) := by rw [qidx, if_pos hm, hi]
  have hil : i < n := by have := List.idxOf_lt_length_iff.2 hm; have := h.len; omega
  have hat : at0 L i = (x1, x2) := by rw [← hi]; exact at0_idxOf hm
  rw [hi, h.len]
  have HAT := Lib.hid hat
  have HQ := Lib.hid hq
  clear hq hi hat hm
  obtain ⟨A, c, rfl, -⟩ := h.form
  have HO := Lib.hid (own2_new w 3 x1 x2 y)
  have HX0 : Hid (Ext w ((w.alloc (.cells #[.int .i64 3, .int .i64 x1, .int .i64 x2, .int .i64 y] 30)).alloc (.cells #[.int .i64 0, .int .i64 0] 28))) := Lib.hid (((Ext.refl w).alloc _).alloc _)
  have HH := Lib.hid h
  clear h
  go_enter Try.func23, Try.ntmps23
  go_wp2
  generalize (w.alloc (.cells #[.int .i64 3, .int .i64 x1, .int .i64 x2, .int .i64 y] 30)).alloc (.cells #[.int .i64 0, .int .i64 0] 28) = W0 at HO HX0
  have c0 := HO.out.s1
  have c1 := HO.out.s2
  have c2 := (HH.out.ext HX0.out).cell
  go_region_held3 (fun w' => w'.cell? ⟨w.heap.size, 1, none⟩ = some (.int .i64 x1) ∧ w'.cell? ⟨w.heap.size, 1 + 1, none⟩ = some (.int .i64 x2) ∧ w'.cell? ⟨p, 0, none⟩ = some (.slice A n c))
    (first | exact ⟨hx1.cell_some c0, hx1.cell_some c1, hx1.cell_some c2⟩ | exact ⟨c0, c1, c2⟩)
    ((go_at_call 29; refine (index_ok A n c L x1 x2 _ ((Row.own HH.out.own).ext HX0.out.drew)).mono ?_; rintro e w1 ⟨rfl, hx1⟩))
  have HO1 := Lib.hid (HO.out.ext ((Ext.refl W0).drew.trans hx1))
  have HX1 : Hid (Ext w w1) := Lib.hid (HX0.out.trans ((Ext.refl W0).drew.trans hx1))
  have HH1 := Lib.hid (HH.out.ext HX1.out)
  clear c0 c1 c2 hx1
  have s0 := HO1.out.s0
  rw [HQ.out]
  obtain ⟨b, o, z1, z2, rfl, hzk, hc1, hc2⟩ := (Row.own HH1.out.own).item_at (k := i) hil
  have hz : (z1, z2) = (x1, x2) := by rw [← at0_of hzk.out]; exact HAT.out
  injection hz with hz1 hz2
  subst hz1 hz2
  have HST := Lib.hid (HH1.out.setKey hzk.out y)
  have hfz := HH1.out.frozen_row (b := b) (o := o) i
  have s3 := HO1.out.s3
  have cp := HH1.out.cell
  have hlim : n ≤ 9223372036854775807 := by omega
  go_wp2
  go_region
  clear hc1 hc2 hfz s3 cp s0 hzk
  have HO2 : Hid (Own2 w (w1.setCell ⟨b, o + i * 2, none⟩ (.int .i64 y)).drew 3 z1 z2 y) := Lib.hid ((HO1.out.grown HH.out (Grown2.of HST.out.2 p)).ext (Ext.refl _).drew)
  have HH2 := Lib.hid (HST.out.1.ext (Ext.refl _).drew)
  have HG2 : Hid (Grown2 w1 (w1.setCell ⟨b, o + i * 2, none⟩ (.int .i64 y)).drew p (some b)) := Lib.hid (Grown2.of HST.out.2 p).drew
  generalize (w1.setCell ⟨b, o + i * 2, none⟩ (.int .i64 y)).drew = w2 at HO2 HH2 HG2
  go_wp2_with fail
  refine (hfix_ok w2 base p n _ _ i HH2.out hil (by omega)).mono ?_
  rintro e w3 ⟨rfl, hh3, hg3⟩
  have HO3 := Lib.hid (HO2.out.grown HH.out (Grown2.of hg3 p))
  have HE := Lib.hid (qdone HH.out HX1.out HO1.out hh3 (Grown2.trans (v := .slice (some ⟨b, o, none⟩) n c) (v' := .slice (some ⟨b, o, none⟩) n c) HG2.out (.inl rfl) (Grown2.of hg3 p)) (.inl rfl))
  clear hh3 hg3
  have s1 := HO3.out.s1
  have s2 := HO3.out.s2
  have s3 := HO3.out.s3
  have r0 := HO3.out.r0
  have r1 := HO3.out.r1
  have f0 := HO3.out.f0
  have f1 := HO3.out.f1
  go_wp2
  exact bodyPost_ret (v := .tuple #[.agg #[.int .i64 y, .int .i64 z2], .bool true]) (by simp [results, Try.results23, go_sem, r0, r1]) rfl ⟨rfl, HE.out _ _⟩


end Go.Proofs.Ytefeedpeiiaanaa
