import Derived.Test.YbulkarscQ
set_option linter.unusedVariables false
namespace Go.Proofs.Ybulkarsc
open Go.RowKit Go.Deep

set_option maxRecDepth 100000 in
set_option maxHeartbeats 2000000 in
theorem pop_last (qb hb tb e n : Nat) (nx : Option Addr) (v : Value) (f1 f2 : Nat → Value) (w : World) (h : w.heap[qb]? = some (.cells (qcells (some ⟨hb, 0, none⟩) (some ⟨tb, 0, none⟩) 509 e (n + 1)) 56 (0, 0))) (r1 : w.rowIs hb 93 511 f1) (r2 : w.rowIs tb 93 511 f2) (hne : hb ≠ tb) (hv : f1 509 = v) (hx : f1 510 = .pointer nx) (hn : n ≤ 1000000) :
    Calls Yba.prog 20 #[.pointer (some ⟨qb, 0, none⟩)] w fun r w' => r = .returned v ∧ ∃ q, w' = ((((((w.drewN q).setCell ⟨hb, 509, none⟩ .nilFunc).setCell ⟨qb, 2, none⟩ (.int .i64 510)).setCell ⟨qb, 4, none⟩ (.int .i64 n)).setCell ⟨qb, 0, none⟩ (.pointer nx)).setCell ⟨hb, 510, none⟩ (.pointer none)).setCell ⟨qb, 2, none⟩ (.int .i64 0) := by
  obtain ⟨⟨c0, c1, c2, c3, c4⟩, z0, z1, z2, z3, z4⟩ := qcell h
  have nqh : ¬ hb = qb := by
    intro e2; subst e2; have := row_tag r1 h; cases this
  have nqt : ¬ tb = qb := by
    intro e2; subst e2; have := row_tag r2 h; cases this
  have n1 : ((n + 1 : Nat) : Int) = (n : Int) + 1 := by omega
  rw [n1] at c4
  have n0 : ((n : Int) + 1 == 0) = false := beq_eq_false_iff_ne.2 (by omega)
  have w2 : IntKind.i64.wrap ((n : Int) + 1 - 1) = (n : Int) := by rw [IntKind.wrap_i64]; omega
  have hc := r1.cell (i := 509) (by omega)
  rw [hv] at hc
  have hz := r1.frozen 509
  have hq : ∀ q, (binOp .neq 54 (.pointer (some ⟨hb, 0, none⟩)) (.pointer (some ⟨tb, 0, none⟩))).run Yba.prog ((((w.drewN q).setCell ⟨hb, 509, none⟩ .nilFunc).setCell ⟨qb, 2, none⟩ (.int .i64 510)).setCell ⟨qb, 4, none⟩ (.int .i64 n)) = .ok (.bool true) ((((w.drewN q).setCell ⟨hb, 509, none⟩ .nilFunc).setCell ⟨qb, 2, none⟩ (.int .i64 510)).setCell ⟨qb, 4, none⟩ (.int .i64 n)) := fun q => by
    have r1q : (w.drewN q).rowIs hb 93 511 f1 := r1
    have r2q : (w.drewN q).rowIs tb 93 511 f2 := r2
    exact neq_other hne (((r1q.set 509 .nilFunc).setOther (a := ⟨qb, 2, none⟩) nqh _).setOther (a := ⟨qb, 4, none⟩) nqh _) (((r2q.setOther (a := ⟨hb, 509, none⟩) (Ne.symm hne) _).setOther (a := ⟨qb, 2, none⟩) nqt _).setOther (a := ⟨qb, 4, none⟩) nqt _)
  have hh : ∀ q, ((((w.drewN q).setCell ⟨hb, 509, none⟩ .nilFunc).setCell ⟨qb, 2, none⟩ (.int .i64 510)).setCell ⟨qb, 4, none⟩ (.int .i64 n)).heap[qb]? = some (.cells (qcells (some ⟨hb, 0, none⟩) (some ⟨tb, 0, none⟩) 510 e n) 56 (0, 0)) := fun q => by
    have e0 : ((w.drewN q).setCell ⟨hb, 509, none⟩ .nilFunc).heap[qb]? = some (.cells (qcells (some ⟨hb, 0, none⟩) (some ⟨tb, 0, none⟩) 509 e (n + 1)) 56 (0, 0)) := (blk_setCell_other _ _ _ _ (fun e => nqh e.symm)).trans h
    have e1 := heap_setCell_same _ qb 4 _ 56 (.int .i64 n) (heap_setCell_same _ qb 2 _ 56 (.int .i64 510) e0)
    exact e1
  have hx2 : ∀ q, ((((w.drewN q).setCell ⟨hb, 509, none⟩ .nilFunc).setCell ⟨qb, 2, none⟩ (.int .i64 510)).setCell ⟨qb, 4, none⟩ (.int .i64 n)).rowIs hb 93 511 (fun j => if j = 509 then .nilFunc else f1 j) := fun q => by
    have r1q : (w.drewN q).rowIs hb 93 511 f1 := r1
    exact ((r1q.set 509 .nilFunc).setOther (a := ⟨qb, 2, none⟩) nqh _).setOther (a := ⟨qb, 4, none⟩) nqh _
  have HH : Hid (∀ q, ((((w.drewN q).setCell ⟨hb, 509, none⟩ .nilFunc).setCell ⟨qb, 2, none⟩ (.int .i64 510)).setCell ⟨qb, 4, none⟩ (.int .i64 n)).heap[qb]? = some (.cells (qcells (some ⟨hb, 0, none⟩) (some ⟨tb, 0, none⟩) 510 e n) 56 (0, 0))) := hh
  have HX : Hid (∀ q, ((((w.drewN q).setCell ⟨hb, 509, none⟩ .nilFunc).setCell ⟨qb, 2, none⟩ (.int .i64 510)).setCell ⟨qb, 4, none⟩ (.int .i64 n)).rowIs hb 93 511 (fun j => if j = 509 then .nilFunc else f1 j)) := hx2
  clear h n1 r1 r2 hh hx2 hv
  go_enter Yba.func20, Yba.ntmps20
  go_wp2_with fail
  go_quiet (fail)
  go_wp2_with fail
  go_region_held3 (fun w' => w'.cell? ⟨qb, 2, none⟩ = some (.int .i64 509)) (go_keep) (fail)
  go_wp2_with fail
  refine (drop_calls qb hb 510 e n (some ⟨tb, 0, none⟩) nx _ (HH.out _) ?_ ?_ nqh).mono ?_
  · rw [(HX.out _).cell (by omega), if_neg (by omega), hx]
  · exact (HX.out _).frozen _
  rintro r w3 ⟨rfl, rfl⟩
  have nqh' : ¬ qb = hb := fun e => nqh e.symm
  go_wp2_with fail
  go_ret
  exact ⟨rfl, _, rfl⟩

/-- The task laid into its slot, and the counts moved. -/
def stored (wa : World) (qb tb e n : Nat) (v : Value) : World := (((wa.setCell ⟨tb, e, none⟩ v).setCell ⟨qb, 3, none⟩ (.int .i64 (e + 1 : Nat))).setCell ⟨qb, 4, none⟩ (.int .i64 (n + 1 : Nat))).drew

set_option maxRecDepth 100000 in
set_option maxHeartbeats 2000000 in
theorem push_first (qb : Nat) (fn : Fn) (x y : Array Value) (w : World) (h : w.heap[qb]? = some (.cells (qcells none none 0 0 0) 56 (0, 0))) :
    Calls Yba.prog 18 #[.pointer (some ⟨qb, 0, none⟩), .func fn x y] w fun r w' => r = .returned (.tuple #[]) ∧
      w' = stored (((w.setCell ⟨qb, 1, none⟩ (.pointer (some ⟨w.heap.size, 0, none⟩))).setCell ⟨qb, 0, none⟩ (.pointer (some ⟨w.heap.size, 0, none⟩))).alloc (.cells Yba.zeroCells93 93)) qb w.heap.size 0 0 (.func fn x y) := by
  obtain ⟨⟨c0, c1, c2, c3, c4⟩, z0, z1, z2, z3, z4⟩ := qcell h
  have hl := heap_lt h
  have hqa : (((w.setCell ⟨qb, 1, none⟩ (.pointer (some ⟨w.heap.size, 0, none⟩))).setCell ⟨qb, 0, none⟩ (.pointer (some ⟨w.heap.size, 0, none⟩))).alloc (.cells Yba.zeroCells93 93)).heap[qb]? = some (.cells (qcells (some ⟨w.heap.size, 0, none⟩) (some ⟨w.heap.size, 0, none⟩) 0 0 0) 56 (0, 0)) :=
    (blk_alloc_lt _ _ _ (by simp; omega)).trans (heap_setCell_same _ qb 0 _ 56 _ (heap_setCell_same _ qb 1 _ 56 _ h))
  have hra : (((w.setCell ⟨qb, 1, none⟩ (.pointer (some ⟨w.heap.size, 0, none⟩))).setCell ⟨qb, 0, none⟩ (.pointer (some ⟨w.heap.size, 0, none⟩))).alloc (.cells Yba.zeroCells93 93)).rowIs w.heap.size 93 511 zf := zero_row _ _ (by simp)
  have HQ : Hid ((((w.setCell ⟨qb, 1, none⟩ (.pointer (some ⟨w.heap.size, 0, none⟩))).setCell ⟨qb, 0, none⟩ (.pointer (some ⟨w.heap.size, 0, none⟩))).alloc (.cells Yba.zeroCells93 93)).heap[qb]? = some (.cells (qcells (some ⟨w.heap.size, 0, none⟩) (some ⟨w.heap.size, 0, none⟩) 0 0 0) 56 (0, 0)) ∧ (((w.setCell ⟨qb, 1, none⟩ (.pointer (some ⟨w.heap.size, 0, none⟩))).setCell ⟨qb, 0, none⟩ (.pointer (some ⟨w.heap.size, 0, none⟩))).alloc (.cells Yba.zeroCells93 93)).rowIs w.heap.size 93 511 zf) := ⟨hqa, hra⟩
  clear h hqa hra
  go_enter Yba.func18, Yba.ntmps18
  go_wp2_with fail
  generalize hwa : (((w.setCell ⟨qb, 1, none⟩ (.pointer (some ⟨w.heap.size, 0, none⟩))).setCell ⟨qb, 0, none⟩ (.pointer (some ⟨w.heap.size, 0, none⟩))).alloc (.cells Yba.zeroCells93 93)) = wa at *
  have HWA : Hid ((((w.setCell ⟨qb, 1, none⟩ (.pointer (some ⟨w.heap.size, 0, none⟩))).setCell ⟨qb, 0, none⟩ (.pointer (some ⟨w.heap.size, 0, none⟩))).alloc (.cells Yba.zeroCells93 93)) = wa) := hwa
  clear hwa
  clear c0 c1 c2 c3 c4 z0 z1 z2 z3 z4
  obtain ⟨⟨c0, c1, c2, c3, c4⟩, z0, z1, z2, z3, z4⟩ := qcell HQ.out.1
  have t0 := HQ.out.2.cell (i := 0) (by omega)
  have t1 := HQ.out.2.frozen 0
  have ne1 : ¬ w.heap.size = qb := by omega
  go_region_held3 (fun w' => w'.cell? ⟨qb, 1, none⟩ = some (.pointer (some ⟨w.heap.size, 0, none⟩)) ∧ w'.cell? ⟨qb, 3, none⟩ = some (.int .i64 0)) (go_keep) (fail)
  go_wp2_with fail
  go_end0
  exact ⟨rfl, by rw [HWA.out]; rfl⟩

set_option maxRecDepth 100000 in
set_option maxHeartbeats 2000000 in
theorem push_grow (qb tb a n : Nat) (ph : Option Addr) (fn : Fn) (x y : Array Value) (f : Nat → Value) (w : World) (h : w.heap[qb]? = some (.cells (qcells ph (some ⟨tb, 0, none⟩) a 510 n) 56 (0, 0))) (hr : w.rowIs tb 93 511 f) (hn0 : 0 < n) (hn : n ≤ 1000000) :
    Calls Yba.prog 18 #[.pointer (some ⟨qb, 0, none⟩), .func fn x y] w fun r w' => r = .returned (.tuple #[]) ∧ w' = stored ((((w.setCell ⟨tb, 510, none⟩ (.pointer (some ⟨w.heap.size, 0, none⟩))).setCell ⟨qb, 1, none⟩ (.pointer (some ⟨w.heap.size, 0, none⟩))).setCell ⟨qb, 3, none⟩ (.int .i64 0)).alloc (.cells Yba.zeroCells93 93)) qb w.heap.size 0 n (.func fn x y) := by
  obtain ⟨⟨c0, c1, c2, c3, c4⟩, z0, z1, z2, z3, z4⟩ := qcell h
  have c3 : w.cell? ⟨qb, 3, none⟩ = some (.int .i64 510) := c3
  have hne : ¬ tb = qb := by
    intro e2; subst e2; have := row_tag hr h; cases this
  have hne' : ¬ qb = tb := fun e => hne e.symm
  have t1 := hr.cell (i := 510) (by omega)
  have t2 := hr.frozen 510
  have hl := heap_lt h
  have hl2 := hr.lt
  have hqa : ((((w.setCell ⟨tb, 510, none⟩ (.pointer (some ⟨w.heap.size, 0, none⟩))).setCell ⟨qb, 1, none⟩ (.pointer (some ⟨w.heap.size, 0, none⟩))).setCell ⟨qb, 3, none⟩ (.int .i64 0)).alloc (.cells Yba.zeroCells93 93)).heap[qb]? = some (.cells (qcells ph (some ⟨w.heap.size, 0, none⟩) a 0 n) 56 (0, 0)) :=
    (blk_alloc_lt _ _ _ (by simp; omega)).trans (heap_setCell_same _ qb 3 _ 56 _ (heap_setCell_same _ qb 1 _ 56 _ ((blk_setCell_other _ _ _ _ hne').trans h)))
  have hra : ((((w.setCell ⟨tb, 510, none⟩ (.pointer (some ⟨w.heap.size, 0, none⟩))).setCell ⟨qb, 1, none⟩ (.pointer (some ⟨w.heap.size, 0, none⟩))).setCell ⟨qb, 3, none⟩ (.int .i64 0)).alloc (.cells Yba.zeroCells93 93)).rowIs w.heap.size 93 511 zf := zero_row _ _ (by simp)
  have hrt : ((((w.setCell ⟨tb, 510, none⟩ (.pointer (some ⟨w.heap.size, 0, none⟩))).setCell ⟨qb, 1, none⟩ (.pointer (some ⟨w.heap.size, 0, none⟩))).setCell ⟨qb, 3, none⟩ (.int .i64 0)).alloc (.cells Yba.zeroCells93 93)).rowIs tb 93 511 (fun j => if j = 510 then .pointer (some ⟨w.heap.size, 0, none⟩) else f j) := (((hr.set 510 _).setOther (a := ⟨qb, 1, none⟩) hne _).setOther (a := ⟨qb, 3, none⟩) hne _).alloc _
  have HQ : Hid (((((w.setCell ⟨tb, 510, none⟩ (.pointer (some ⟨w.heap.size, 0, none⟩))).setCell ⟨qb, 1, none⟩ (.pointer (some ⟨w.heap.size, 0, none⟩))).setCell ⟨qb, 3, none⟩ (.int .i64 0)).alloc (.cells Yba.zeroCells93 93)).heap[qb]? = some (.cells (qcells ph (some ⟨w.heap.size, 0, none⟩) a 0 n) 56 (0, 0)) ∧ ((((w.setCell ⟨tb, 510, none⟩ (.pointer (some ⟨w.heap.size, 0, none⟩))).setCell ⟨qb, 1, none⟩ (.pointer (some ⟨w.heap.size, 0, none⟩))).setCell ⟨qb, 3, none⟩ (.int .i64 0)).alloc (.cells Yba.zeroCells93 93)).rowIs w.heap.size 93 511 zf ∧ ((((w.setCell ⟨tb, 510, none⟩ (.pointer (some ⟨w.heap.size, 0, none⟩))).setCell ⟨qb, 1, none⟩ (.pointer (some ⟨w.heap.size, 0, none⟩))).setCell ⟨qb, 3, none⟩ (.int .i64 0)).alloc (.cells Yba.zeroCells93 93)).rowIs tb 93 511 (fun j => if j = 510 then .pointer (some ⟨w.heap.size, 0, none⟩) else f j)) := ⟨hqa, hra, hrt⟩
  clear h hr hqa hra hrt
  have n1 : ((n : Int) == 0) = false := beq_eq_false_iff_ne.2 (by omega)
  have n2 : ¬ (n : Int) = 0 := by omega
  have e4 : IntKind.i64.wrap ((n : Int) + 1) = (n : Int) + 1 := by rw [IntKind.wrap_i64]; omega
  go_enter Yba.func18, Yba.ntmps18
  go_wp2_with fail
  generalize hwa : ((((w.setCell ⟨tb, 510, none⟩ (.pointer (some ⟨w.heap.size, 0, none⟩))).setCell ⟨qb, 1, none⟩ (.pointer (some ⟨w.heap.size, 0, none⟩))).setCell ⟨qb, 3, none⟩ (.int .i64 0)).alloc (.cells Yba.zeroCells93 93)) = wa at *
  have HWA : Hid (((((w.setCell ⟨tb, 510, none⟩ (.pointer (some ⟨w.heap.size, 0, none⟩))).setCell ⟨qb, 1, none⟩ (.pointer (some ⟨w.heap.size, 0, none⟩))).setCell ⟨qb, 3, none⟩ (.int .i64 0)).alloc (.cells Yba.zeroCells93 93)) = wa) := hwa
  clear hwa c0 c1 c2 c3 c4 z0 z1 z2 z3 z4 t1 t2
  obtain ⟨⟨c0, c1, c2, c3, c4⟩, z0, z1, z2, z3, z4⟩ := qcell HQ.out.1
  have c3 : wa.cell? ⟨qb, 3, none⟩ = some (.int .i64 0) := c3
  have t0 := HQ.out.2.1.cell (i := 0) (by omega)
  have t1 := HQ.out.2.1.frozen 0
  have ne1 : ¬ w.heap.size = qb := by omega
  go_region_held3 (fun w' => w'.cell? ⟨qb, 1, none⟩ = some (.pointer (some ⟨w.heap.size, 0, none⟩)) ∧ w'.cell? ⟨qb, 3, none⟩ = some (.int .i64 0)) (go_keep) (fail)
  go_wp2_with fail
  go_end0
  exact ⟨rfl, by rw [HWA.out]; rfl⟩

set_option maxRecDepth 100000 in
set_option maxHeartbeats 2000000 in
theorem push_wrap (qb tb a : Nat) (fn : Fn) (x y : Array Value) (f : Nat → Value) (w : World) (h : w.heap[qb]? = some (.cells (qcells (some ⟨tb, 0, none⟩) (some ⟨tb, 0, none⟩) a 510 0) 56 (0, 0))) (hr : w.rowIs tb 93 511 f) :
    Calls Yba.prog 18 #[.pointer (some ⟨qb, 0, none⟩), .func fn x y] w fun r w' => r = .returned (.tuple #[]) ∧ w' = stored (((((((w.setCell ⟨tb, 510, none⟩ (.pointer (some ⟨w.heap.size, 0, none⟩))).setCell ⟨qb, 1, none⟩ (.pointer (some ⟨w.heap.size, 0, none⟩))).setCell ⟨qb, 3, none⟩ (.int .i64 0)).alloc (.cells Yba.zeroCells93 93)).setCell ⟨qb, 0, none⟩ (.pointer (some ⟨w.heap.size, 0, none⟩))).setCell ⟨tb, 510, none⟩ (.pointer none)).setCell ⟨qb, 2, none⟩ (.int .i64 0)) qb w.heap.size 0 0 (.func fn x y) := by
  obtain ⟨⟨c0, c1, c2, c3, c4⟩, z0, z1, z2, z3, z4⟩ := qcell h
  have c3 : w.cell? ⟨qb, 3, none⟩ = some (.int .i64 510) := c3
  have hne : ¬ tb = qb := by
    intro e2; subst e2; have := row_tag hr h; cases this
  have hne' : ¬ qb = tb := fun e => hne e.symm
  have t1 := hr.cell (i := 510) (by omega)
  have t2 := hr.frozen 510
  have hl := heap_lt h
  have hl2 := hr.lt
  have hqa : ((((w.setCell ⟨tb, 510, none⟩ (.pointer (some ⟨w.heap.size, 0, none⟩))).setCell ⟨qb, 1, none⟩ (.pointer (some ⟨w.heap.size, 0, none⟩))).setCell ⟨qb, 3, none⟩ (.int .i64 0)).alloc (.cells Yba.zeroCells93 93)).heap[qb]? = some (.cells (qcells (some ⟨tb, 0, none⟩) (some ⟨w.heap.size, 0, none⟩) a 0 0) 56 (0, 0)) :=
    (blk_alloc_lt _ _ _ (by simp; omega)).trans (heap_setCell_same _ qb 3 _ 56 _ (heap_setCell_same _ qb 1 _ 56 _ ((blk_setCell_other _ _ _ _ hne').trans h)))
  have hra : ((((w.setCell ⟨tb, 510, none⟩ (.pointer (some ⟨w.heap.size, 0, none⟩))).setCell ⟨qb, 1, none⟩ (.pointer (some ⟨w.heap.size, 0, none⟩))).setCell ⟨qb, 3, none⟩ (.int .i64 0)).alloc (.cells Yba.zeroCells93 93)).rowIs w.heap.size 93 511 zf := zero_row _ _ (by simp)
  have hrt : ((((w.setCell ⟨tb, 510, none⟩ (.pointer (some ⟨w.heap.size, 0, none⟩))).setCell ⟨qb, 1, none⟩ (.pointer (some ⟨w.heap.size, 0, none⟩))).setCell ⟨qb, 3, none⟩ (.int .i64 0)).alloc (.cells Yba.zeroCells93 93)).rowIs tb 93 511 (fun j => if j = 510 then .pointer (some ⟨w.heap.size, 0, none⟩) else f j) := (((hr.set 510 _).setOther (a := ⟨qb, 1, none⟩) hne _).setOther (a := ⟨qb, 3, none⟩) hne _).alloc _
  have HQ : Hid (((((w.setCell ⟨tb, 510, none⟩ (.pointer (some ⟨w.heap.size, 0, none⟩))).setCell ⟨qb, 1, none⟩ (.pointer (some ⟨w.heap.size, 0, none⟩))).setCell ⟨qb, 3, none⟩ (.int .i64 0)).alloc (.cells Yba.zeroCells93 93)).heap[qb]? = some (.cells (qcells (some ⟨tb, 0, none⟩) (some ⟨w.heap.size, 0, none⟩) a 0 0) 56 (0, 0)) ∧ ((((w.setCell ⟨tb, 510, none⟩ (.pointer (some ⟨w.heap.size, 0, none⟩))).setCell ⟨qb, 1, none⟩ (.pointer (some ⟨w.heap.size, 0, none⟩))).setCell ⟨qb, 3, none⟩ (.int .i64 0)).alloc (.cells Yba.zeroCells93 93)).rowIs w.heap.size 93 511 zf ∧ ((((w.setCell ⟨tb, 510, none⟩ (.pointer (some ⟨w.heap.size, 0, none⟩))).setCell ⟨qb, 1, none⟩ (.pointer (some ⟨w.heap.size, 0, none⟩))).setCell ⟨qb, 3, none⟩ (.int .i64 0)).alloc (.cells Yba.zeroCells93 93)).rowIs tb 93 511 (fun j => if j = 510 then .pointer (some ⟨w.heap.size, 0, none⟩) else f j)) := ⟨hqa, hra, hrt⟩
  clear h hr hqa hra hrt
  have c4 : w.cell? ⟨qb, 4, none⟩ = some (.int .i64 0) := c4
  go_enter Yba.func18, Yba.ntmps18
  go_wp2_with fail
  generalize hwa : ((((w.setCell ⟨tb, 510, none⟩ (.pointer (some ⟨w.heap.size, 0, none⟩))).setCell ⟨qb, 1, none⟩ (.pointer (some ⟨w.heap.size, 0, none⟩))).setCell ⟨qb, 3, none⟩ (.int .i64 0)).alloc (.cells Yba.zeroCells93 93)) = wa at *
  have HWA : Hid (((((w.setCell ⟨tb, 510, none⟩ (.pointer (some ⟨w.heap.size, 0, none⟩))).setCell ⟨qb, 1, none⟩ (.pointer (some ⟨w.heap.size, 0, none⟩))).setCell ⟨qb, 3, none⟩ (.int .i64 0)).alloc (.cells Yba.zeroCells93 93)) = wa) := hwa
  clear hwa c0 c1 c2 c3 c4 z0 z1 z2 z3 z4 t1 t2
  refine (drop_calls qb tb a 0 0 (some ⟨w.heap.size, 0, none⟩) (some ⟨w.heap.size, 0, none⟩) wa HQ.out.1 ?_ ?_ hne).mono ?_
  · rw [HQ.out.2.2.cell (by omega), if_pos rfl]
  · exact HQ.out.2.2.frozen _
  rintro r w3 ⟨rfl, rfl⟩
  have nt : w.heap.size ≠ tb := by omega
  have nq : w.heap.size ≠ qb := by omega
  have hqb : (((wa.setCell ⟨qb, 0, none⟩ (.pointer (some ⟨w.heap.size, 0, none⟩))).setCell ⟨tb, 510, none⟩ (.pointer none)).setCell ⟨qb, 2, none⟩ (.int .i64 0)).heap[qb]? = some (.cells (qcells (some ⟨w.heap.size, 0, none⟩) (some ⟨w.heap.size, 0, none⟩) 0 0 0) 56 (0, 0)) :=
    heap_setCell_same _ qb 2 _ 56 _ ((blk_setCell_other _ _ _ _ hne').trans (heap_setCell_same _ qb 0 _ 56 _ HQ.out.1))
  have hrb : (((wa.setCell ⟨qb, 0, none⟩ (.pointer (some ⟨w.heap.size, 0, none⟩))).setCell ⟨tb, 510, none⟩ (.pointer none)).setCell ⟨qb, 2, none⟩ (.int .i64 0)).rowIs w.heap.size 93 511 zf := ((HQ.out.2.1.setOther (a := ⟨qb, 0, none⟩) nq _).setOther (a := ⟨tb, 510, none⟩) nt _).setOther (a := ⟨qb, 2, none⟩) nq _
  have hq3 : ((wa.setCell ⟨qb, 0, none⟩ (.pointer (some ⟨w.heap.size, 0, none⟩))).setCell ⟨tb, 510, none⟩ (.pointer none)).heap[qb]? = some (.cells (qcells (some ⟨w.heap.size, 0, none⟩) (some ⟨w.heap.size, 0, none⟩) a 0 0) 56 (0, 0)) := (blk_setCell_other _ _ _ _ hne').trans (heap_setCell_same _ qb 0 _ 56 _ HQ.out.1)
  obtain ⟨⟨c0, c1, c2, c3, c4⟩, z0, z1, z2, z3, z4⟩ := qcell hq3
  have HB : Hid ((((wa.setCell ⟨qb, 0, none⟩ (.pointer (some ⟨w.heap.size, 0, none⟩))).setCell ⟨tb, 510, none⟩ (.pointer none)).setCell ⟨qb, 2, none⟩ (.int .i64 0)).heap[qb]? = some (.cells (qcells (some ⟨w.heap.size, 0, none⟩) (some ⟨w.heap.size, 0, none⟩) 0 0 0) 56 (0, 0)) ∧ (((wa.setCell ⟨qb, 0, none⟩ (.pointer (some ⟨w.heap.size, 0, none⟩))).setCell ⟨tb, 510, none⟩ (.pointer none)).setCell ⟨qb, 2, none⟩ (.int .i64 0)).rowIs w.heap.size 93 511 zf) := ⟨hqb, hrb⟩
  clear hqb hrb hq3
  go_wp2_with fail
  generalize hwb : ((wa.setCell ⟨qb, 0, none⟩ (.pointer (some ⟨w.heap.size, 0, none⟩))).setCell ⟨tb, 510, none⟩ (.pointer none)).setCell ⟨qb, 2, none⟩ (.int .i64 0) = wb at *
  have HWB : Hid (((wa.setCell ⟨qb, 0, none⟩ (.pointer (some ⟨w.heap.size, 0, none⟩))).setCell ⟨tb, 510, none⟩ (.pointer none)).setCell ⟨qb, 2, none⟩ (.int .i64 0) = wb) := hwb
  clear hwb c0 c1 c2 c3 c4 z0 z1 z2 z3 z4
  obtain ⟨⟨c0, c1, c2, c3, c4⟩, z0, z1, z2, z3, z4⟩ := qcell HB.out.1
  have c3 : wb.cell? ⟨qb, 3, none⟩ = some (.int .i64 0) := c3
  have c4 : wb.cell? ⟨qb, 4, none⟩ = some (.int .i64 0) := c4
  have t0 := HB.out.2.cell (i := 0) (by omega)
  have t1 := HB.out.2.frozen 0
  have ne1 : ¬ w.heap.size = qb := nq
  go_region_held3 (fun w' => w'.cell? ⟨qb, 1, none⟩ = some (.pointer (some ⟨w.heap.size, 0, none⟩)) ∧ w'.cell? ⟨qb, 3, none⟩ = some (.int .i64 0)) (go_keep) (fail)
  go_wp2_with fail
  go_end0
  exact ⟨rfl, by rw [HWA.out, HWB.out]; rfl⟩

end Go.Proofs.Ybulkarsc
