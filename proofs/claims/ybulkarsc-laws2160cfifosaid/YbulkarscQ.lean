import Derived.Test.YbulkarscFill
set_option linter.unusedVariables false
namespace Go.Proofs.Ybulkarsc
open Go.RowKit Go.Deep

def qcells (ph pt : Option Addr) (a e n : Nat) : Array Value := #[.pointer ph, .pointer pt, .int .i64 a, .int .i64 e, .int .i64 n]

theorem qcell {w : World} {qb : Nat} {ph pt : Option Addr} {a e n : Nat} (h : w.heap[qb]? = some (.cells (qcells ph pt a e n) 56 (0, 0))) :
    (w.cell? ⟨qb, 0, none⟩ = some (.pointer ph) ∧ w.cell? ⟨qb, 1, none⟩ = some (.pointer pt) ∧ w.cell? ⟨qb, 2, none⟩ = some (.int .i64 a) ∧ w.cell? ⟨qb, 3, none⟩ = some (.int .i64 e) ∧ w.cell? ⟨qb, 4, none⟩ = some (.int .i64 n)) ∧
    (w.frozen? ⟨qb, 0, none⟩ = false ∧ w.frozen? ⟨qb, 1, none⟩ = false ∧ w.frozen? ⟨qb, 2, none⟩ = false ∧ w.frozen? ⟨qb, 3, none⟩ = false ∧ w.frozen? ⟨qb, 4, none⟩ = false) := by
  simp [World.cell?, World.frozen?, h, qcells]

theorem len_calls (qb a e n : Nat) (ph pt : Option Addr) (w : World) (h : w.heap[qb]? = some (.cells (qcells ph pt a e n) 56 (0, 0))) :
    Calls Yba.prog 21 #[.pointer (some ⟨qb, 0, none⟩)] w fun r w' => r = .returned (.int .i64 n) ∧ w' = w := by
  obtain ⟨⟨c0, c1, c2, c3, c4⟩, z0, z1, z2, z3, z4⟩ := qcell h
  go_enter Yba.func21, Yba.ntmps21
  go_wp2_with fail
  go_ret
  exact ⟨rfl, rfl⟩

set_option maxRecDepth 100000 in
set_option maxHeartbeats 2000000 in
theorem push_mid (qb tb a e n : Nat) (ph : Option Addr) (v : Value) (f : Nat → Value) (fn : Fn) (x y : Array Value) (hv : v = .func fn x y) (w : World) (h : w.heap[qb]? = some (.cells (qcells ph (some ⟨tb, 0, none⟩) a e n) 56 (0, 0))) (hr : w.rowIs tb 93 511 f) (he : e < 510) (hn : n ≤ 1000000) :
    Calls Yba.prog 18 #[.pointer (some ⟨qb, 0, none⟩), v] w fun r w' => r = .returned (.tuple #[]) ∧ w' = (((w.setCell ⟨tb, e, none⟩ v).setCell ⟨qb, 3, none⟩ (.int .i64 (e + 1 : Nat))).setCell ⟨qb, 4, none⟩ (.int .i64 (n + 1 : Nat))).drew := by
  obtain ⟨⟨c0, c1, c2, c3, c4⟩, z0, z1, z2, z3, z4⟩ := qcell h
  have hne : ¬ tb = qb := by
    intro e2; subst e2; have := row_tag hr h; cases this
  have t1 := hr.cell (i := e) (by omega)
  have t2 := hr.frozen e
  have e1 : (e : Int) < 510 := by omega
  have e2 : ((e : Int) == 510) = false := beq_eq_false_iff_ne.2 (by omega)
  have e3 : IntKind.i64.wrap ((e : Int) + 1) = (e : Int) + 1 := by rw [IntKind.wrap_i64]; omega
  have e4 : IntKind.i64.wrap ((n : Int) + 1) = (n : Int) + 1 := by rw [IntKind.wrap_i64]; omega
  subst hv
  clear h hr
  go_enter Yba.func18, Yba.ntmps18
  go_wp2_with fail
  go_region_held3 (fun w' => w'.cell? ⟨qb, 1, none⟩ = some (.pointer (some ⟨tb, 0, none⟩)) ∧ w'.cell? ⟨qb, 3, none⟩ = some (.int .i64 e)) (go_keep) (fail)
  go_wp2_with fail
  go_end0
  exact ⟨rfl, rfl⟩

set_option maxRecDepth 100000 in
set_option maxHeartbeats 2000000 in
theorem drop_calls (qb hb a e n : Nat) (pt nx : Option Addr) (w : World) (h : w.heap[qb]? = some (.cells (qcells (some ⟨hb, 0, none⟩) pt a e n) 56 (0, 0))) (hc : w.cell? ⟨hb, 510, none⟩ = some (.pointer nx)) (hz : w.frozen? ⟨hb, 510, none⟩ = false) (hne : ¬ hb = qb) :
    Calls Yba.prog 30 #[.pointer (some ⟨qb, 0, none⟩)] w fun r w' => r = .returned (.tuple #[]) ∧ w' = (w.setCell ⟨qb, 0, none⟩ (.pointer nx)).setCell ⟨hb, 510, none⟩ (.pointer none) := by
  obtain ⟨⟨c0, c1, c2, c3, c4⟩, z0, z1, z2, z3, z4⟩ := qcell h
  have hne' : ¬ qb = hb := fun e => hne e.symm
  clear h
  go_enter Yba.func30, Yba.ntmps30
  go_wp2_with fail
  go_end0
  exact ⟨rfl, rfl⟩

theorem pop_none (qb a e : Nat) (ph pt : Option Addr) (w : World) (h : w.heap[qb]? = some (.cells (qcells ph pt a e 0) 56 (0, 0))) :
    Calls Yba.prog 20 #[.pointer (some ⟨qb, 0, none⟩)] w fun r w' => r = .returned .nilFunc ∧ w' = w := by
  obtain ⟨⟨c0, c1, c2, c3, c4⟩, z0, z1, z2, z3, z4⟩ := qcell h
  go_enter Yba.func20, Yba.ntmps20
  go_wp2_with fail
  go_ret
  exact ⟨rfl, rfl⟩

set_option maxRecDepth 100000 in
set_option maxHeartbeats 2000000 in
theorem pop_mid (qb hb a e n : Nat) (pt : Option Addr) (v : Value) (w : World) (h : w.heap[qb]? = some (.cells (qcells (some ⟨hb, 0, none⟩) pt a e (n + 1)) 56 (0, 0))) (hc : w.cell? ⟨hb, a, none⟩ = some v) (hz : w.frozen? ⟨hb, a, none⟩ = false) (hne : ¬ hb = qb) (ha : a + 1 < 510) (hn : n ≤ 1000000) :
    Calls Yba.prog 20 #[.pointer (some ⟨qb, 0, none⟩)] w fun r w' => r = .returned v ∧ ∃ q, w' = (((w.drewN q).setCell ⟨hb, a, none⟩ .nilFunc).setCell ⟨qb, 2, none⟩ (.int .i64 (a + 1 : Nat))).setCell ⟨qb, 4, none⟩ (.int .i64 n) := by
  obtain ⟨⟨c0, c1, c2, c3, c4⟩, z0, z1, z2, z3, z4⟩ := qcell h
  have a1 : (a : Int) < 510 := by omega
  have n1 : ((n + 1 : Nat) : Int) = (n : Int) + 1 := by omega
  rw [n1] at c4
  have n0 : ((n : Int) + 1 == 0) = false := beq_eq_false_iff_ne.2 (by omega)
  have w1 : IntKind.i64.wrap ((a : Int) + 1) = (a : Int) + 1 := by rw [IntKind.wrap_i64]; omega
  have w2 : IntKind.i64.wrap ((n : Int) + 1 - 1) = (n : Int) := by rw [IntKind.wrap_i64]; omega
  have a2 : ((a : Int) + 1 == 510) = false := beq_eq_false_iff_ne.2 (by omega)
  clear h n1
  go_enter Yba.func20, Yba.ntmps20
  go_wp2_with fail
  go_quiet (fail)
  go_wp2_with fail
  go_region_held3 (fun w' => w'.cell? ⟨qb, 2, none⟩ = some (.int .i64 a)) (go_keep) (fail)
  go_wp2_with fail
  go_ret
  exact ⟨rfl, _, rfl⟩

theorem Yba.size93' : (Yba.prog.info? 93).map (·.size) = some 511 := by kernel_rfl
theorem neq_same (b : Nat) (w : World) : (binOp .neq 54 (.pointer (some ⟨b, 0, none⟩)) (.pointer (some ⟨b, 0, none⟩))).run Yba.prog w = .ok (.bool false) w := by
  obtain ⟨j, hj, hsz⟩ := Option.map_eq_some_iff.1 Yba.size93'
  have h : ∀ d : Nat, (Op.equalIn (d + 1) 54 (.pointer (some ⟨b, 0, none⟩)) (.pointer (some ⟨b, 0, none⟩))).run Yba.prog w = .ok true w := fun d => by
    simp [Op.equalIn, run_underlying Yba.underlying54, sizeOf, typeInfo, hj, run_sameAddr_same]
  simp only [binOp]
  simp [Op.equal, Op.maxDepth, h 9999]
theorem neq_other {a b : Nat} {w : World} {f1 f2 : Nat → Value} (hne : a ≠ b) (h1 : w.rowIs a 93 511 f1) (h2 : w.rowIs b 93 511 f2) : (binOp .neq 54 (.pointer (some ⟨a, 0, none⟩)) (.pointer (some ⟨b, 0, none⟩))).run Yba.prog w = .ok (.bool true) w := by
  obtain ⟨j, hj, hsz⟩ := Option.map_eq_some_iff.1 Yba.size93'
  obtain ⟨c1, q1, -⟩ := h1
  obtain ⟨c2, q2, -⟩ := h2
  have h : ∀ d : Nat, (Op.equalIn (d + 1) 54 (.pointer (some ⟨a, 0, none⟩)) (.pointer (some ⟨b, 0, none⟩))).run Yba.prog w = .ok false w := fun d => by
    simp [Op.equalIn, run_underlying Yba.underlying54, sizeOf, typeInfo, hj, hsz, run_sameAddr_other w (a := ⟨a, 0, none⟩) (b := ⟨b, 0, none⟩) (by simp) q1 q2]
  simp only [binOp]
  simp [Op.equal, Op.maxDepth, h 9999]

set_option maxRecDepth 100000 in
set_option maxHeartbeats 2000000 in
theorem pop_end (qb hb e n : Nat) (v : Value) (w : World) (h : w.heap[qb]? = some (.cells (qcells (some ⟨hb, 0, none⟩) (some ⟨hb, 0, none⟩) 509 e (n + 1)) 56 (0, 0))) (hc : w.cell? ⟨hb, 509, none⟩ = some v) (hz : w.frozen? ⟨hb, 509, none⟩ = false) (hne : ¬ hb = qb) (hn : n ≤ 1000000) :
    Calls Yba.prog 20 #[.pointer (some ⟨qb, 0, none⟩)] w fun r w' => r = .returned v ∧ ∃ q, w' = (((w.drewN q).setCell ⟨hb, 509, none⟩ .nilFunc).setCell ⟨qb, 2, none⟩ (.int .i64 510)).setCell ⟨qb, 4, none⟩ (.int .i64 n) := by
  obtain ⟨⟨c0, c1, c2, c3, c4⟩, z0, z1, z2, z3, z4⟩ := qcell h
  have n1 : ((n + 1 : Nat) : Int) = (n : Int) + 1 := by omega
  rw [n1] at c4
  have n0 : ((n : Int) + 1 == 0) = false := beq_eq_false_iff_ne.2 (by omega)
  have w2 : IntKind.i64.wrap ((n : Int) + 1 - 1) = (n : Int) := by rw [IntKind.wrap_i64]; omega
  have hq := neq_same hb
  clear h n1
  go_enter Yba.func20, Yba.ntmps20
  go_wp2_with fail
  go_quiet (fail)
  go_wp2_with fail
  go_region_held3 (fun w' => w'.cell? ⟨qb, 2, none⟩ = some (.int .i64 509)) (go_keep) (fail)
  go_wp2_with fail
  go_ret
  exact ⟨rfl, _, rfl⟩

end Go.Proofs.Ybulkarsc
