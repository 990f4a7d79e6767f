import Derived.Test.YbulkarscTake
set_option linter.unusedVariables false
namespace Go.Proofs.Ybulkarsc
open Go.RowKit Go.Deep

/-- Nil just where p says so. -/
def NilAt (v : Value) (p : Prop) : Prop := (v = .nilFunc ∧ p) ∨ ∃ fn a b, v = .func fn a b ∧ ¬ p

theorem fn_some (fn : Fn) (a b : Array Value) (w : World) : (binOp .eql 71 (.func fn a b) .nilFunc).run Yba.prog w = .ok (.bool false) w := by
  have hh : ∀ d : Nat, (Op.equalIn (d + 1) 71 (.func fn a b) .nilFunc).run Yba.prog w = .ok false w := fun d => by
    simp [Op.equalIn, run_underlying Yba.underlying71]
  simp only [binOp]
  simp [Op.equal, Op.maxDepth, hh 9999]
theorem fn_none (w : World) : (binOp .eql 71 .nilFunc .nilFunc).run Yba.prog w = .ok (.bool true) w := by
  have hh : ∀ d : Nat, (Op.equalIn (d + 1) 71 .nilFunc .nilFunc).run Yba.prog w = .ok true w := fun d => by
    simp [Op.equalIn, run_underlying Yba.underlying71]
  simp only [binOp]
  simp [Op.equal, Op.maxDepth, hh 9999]

theorem grown_set1 (w : World) (b j : Nat) (v : Value) : w.grownBy (w.setCell ⟨b, j, none⟩ v) (some b) := ⟨rfl, rfl, rfl, by simp, fun i _ hne => blk_setCell_other _ _ _ _ (fun e => hne (by simp [e]))⟩

set_option maxHeartbeats 1000000 in
theorem task28_calls (ib xb gb : Nat) (id : Int) (gv : Value) (w : World) (cx : w.cell? ⟨xb, 0, none⟩ = some (.pointer (some ⟨gb, 0, none⟩))) (ci : w.cell? ⟨ib, 0, none⟩ = some (.int .i64 id)) (cg : w.cell? ⟨gb, 0, none⟩ = some gv) (zg : w.frozen? ⟨gb, 0, none⟩ = false) :
    Calls Yba.prog 28 #[.pointer none, .pointer (some ⟨ib, 0, none⟩), .pointer (some ⟨xb, 0, none⟩)] w fun e w' => e = .returned (.tuple #[]) ∧ w' = w.setCell ⟨gb, 0, none⟩ (.int .i64 id) := by
  go_enter Yba.func28, Yba.ntmps28
  go_wp2_with fail
  go_end0
  exact ⟨rfl, rfl⟩

set_option maxHeartbeats 1000000 in
theorem task29_calls (ib xb gb : Nat) (id : Int) (gv : Value) (w : World) (cx : w.cell? ⟨xb, 0, none⟩ = some (.pointer (some ⟨gb, 0, none⟩))) (ci : w.cell? ⟨ib, 0, none⟩ = some (.int .i64 id)) (cg : w.cell? ⟨gb, 0, none⟩ = some gv) (zg : w.frozen? ⟨gb, 0, none⟩ = false) :
    Calls Yba.prog 29 #[.pointer none, .pointer (some ⟨ib, 0, none⟩), .pointer (some ⟨xb, 0, none⟩)] w fun e w' => e = .returned (.tuple #[]) ∧ w' = w.setCell ⟨gb, 0, none⟩ (.int .i64 id) := by
  go_enter Yba.func29, Yba.ntmps29
  go_wp2_with fail
  go_end0
  exact ⟨rfl, rfl⟩

set_option maxRecDepth 100000 in
set_option maxHeartbeats 2000000 in
theorem check_one (cb nb ib xb gb want : Nat) (gv : Value) (f1 f2 : Nat → Value) (w : World) (r1 : w.rowIs cb 93 511 f1) (r2 : w.rowIs nb 93 511 f2) (hx : w.heap[xb]? = some (.cells #[.pointer (some ⟨gb, 0, none⟩)] 68 (0, 0)))
    (hi : w.heap[ib]? = some (.cells #[.int .i64 want] 3 (0, 0))) (hg : w.heap[gb]? = some (.cells #[gv] 3 (0, 0))) (hgi : gb ≠ ib) (hw : want ≤ 1100)
    (h1 : ∀ j, j < 510 → NilAt (f1 j) (j = want)) (h2 : ∀ j, j < 510 → NilAt (f2 j) (510 + j = want)) :
    Calls Yba.prog 16 #[.pointer (some ⟨cb, 0, none⟩), .pointer (some ⟨nb, 0, none⟩), .func (Fn.func 28) #[] #[.pointer (some ⟨ib, 0, none⟩), .pointer (some ⟨xb, 0, none⟩)], .pointer (some ⟨gb, 0, none⟩), .int .i64 want] w
      fun e w' => e = .returned (.bool true) ∧ w.grownBy w' (some gb) := by
  have cg : w.cell? ⟨gb, 0, none⟩ = some gv := by simp [World.cell?, hg]
  have zg : w.frozen? ⟨gb, 0, none⟩ = false := by simp [World.frozen?, hg]
  have ci : w.cell? ⟨ib, 0, none⟩ = some (.int .i64 want) := by simp [World.cell?, hi]
  have cx : w.cell? ⟨xb, 0, none⟩ = some (.pointer (some ⟨gb, 0, none⟩)) := by simp [World.cell?, hx]
  have nxg : ¬ gb = xb := by
    intro e; subst e; rw [hg] at hx; simp at hx
  have nig : ¬ gb = ib := hgi
  have ncg : cb ≠ gb := by
    intro e; subst e; have := row_tag r1 hg; cases this
  have nng : nb ≠ gb := by
    intro e; subst e; have := row_tag r2 hg; cases this
  have s1 := (r1.setOther (a := ⟨gb, 0, none⟩) ncg (.int .i64 (-1))).setOther (a := ⟨gb, 0, none⟩) ncg (.int .i64 want)
  have s2 := (r2.setOther (a := ⟨gb, 0, none⟩) nng (.int .i64 (-1))).setOther (a := ⟨gb, 0, none⟩) nng (.int .i64 want)
  have q0 := fn_some
  have q1 := fn_none
  go_enter Yba.func16, Yba.ntmps16
  go_wp2_with fail
  refine (task28_calls ib xb gb want (.int .i64 (-1)) _ ?_ ?_ ?_ ?_).mono ?_
  · exact (World.cell?_setCell_other _ _ _ _ (by simp)).trans cx
  · exact (World.cell?_setCell_other _ _ _ _ (by simp)).trans ci
  · exact World.cell?_setCell_same w ⟨gb, 0, none⟩ (.int .i64 (-1)) cg
  · simp [zg]
  rintro e w1 ⟨rfl, rfl⟩
  have gr : w.grownBy ((w.setCell ⟨gb, 0, none⟩ (.int .i64 (-1))).setCell ⟨gb, 0, none⟩ (.int .i64 want)) (some gb) := (grown_set1 _ _ _ _).trans (grown_set1 _ _ _ _)
  have cg2 : ((w.setCell ⟨gb, 0, none⟩ (.int .i64 (-1))).setCell ⟨gb, 0, none⟩ (.int .i64 want)).cell? ⟨gb, 0, none⟩ = some (.int .i64 want) := World.cell?_setCell_same _ _ _ (World.cell?_setCell_same w ⟨gb, 0, none⟩ (.int .i64 (-1)) cg)
  generalize (w.setCell ⟨gb, 0, none⟩ (.int .i64 (-1))).setCell ⟨gb, 0, none⟩ (.int .i64 want) = w2 at *
  clear cg zg ci cx
  go_wp2_with fail
  clear cg2
  go_loop [11] (fun i => ∃ k : Nat, k ≤ 510 ∧ i = .int .i64 k) (fun i => 510 - (intOf i).toNat)
  case atStart => exact ⟨0, by omega, rfl⟩
  case round =>
    obtain ⟨k, hk, rfl⟩ := hrel
    by_cases hlt : k < 510
    · have hkI : (k : Int) < 510 := by omega
      have c1 := s1.cell (i := k) (by omega)
      have c2 := s2.cell (i := k) (by omega)
      rcases h1 k hlt with ⟨e1, p1⟩ | ⟨n1, a1, b1, e1, p1⟩
      · rcases h2 k hlt with ⟨e2, p2⟩ | ⟨n2, a2, b2, e2, p2⟩
        · omega
        · rw [e1] at c1
          rw [e2] at c2
          have t1 : ((k : Int) == (want : Int)) = true := by simp; omega
          have t2 : ((510 : Int) + k == (want : Int)) = false := beq_eq_false_iff_ne.2 (by omega)
          clear p1 p2
          go_wp2_with fail
          go_round
          case rel => exact ⟨k + 1, by omega, by go_num⟩
          case measure => simp [intOf]; omega
      · rcases h2 k hlt with ⟨e2, p2⟩ | ⟨n2, a2, b2, e2, p2⟩
        · rw [e1] at c1
          rw [e2] at c2
          have t1 : ((k : Int) == (want : Int)) = false := beq_eq_false_iff_ne.2 (by omega)
          have t2 : ((510 : Int) + k == (want : Int)) = true := by simp; omega
          clear p1 p2
          go_wp2_with fail
          go_round
          case rel => exact ⟨k + 1, by omega, by go_num⟩
          case measure => simp [intOf]; omega
        · rw [e1] at c1
          rw [e2] at c2
          have t1 : ((k : Int) == (want : Int)) = false := beq_eq_false_iff_ne.2 (by omega)
          have t2 : ((510 : Int) + k == (want : Int)) = false := beq_eq_false_iff_ne.2 (by omega)
          clear p1 p2
          go_wp2_with fail
          go_round
          case rel => exact ⟨k + 1, by omega, by go_num⟩
          case measure => simp [intOf]; omega
    · have hk' : k = 510 := by omega
      subst hk'
      go_wp2_with fail
      go_ret
      exact ⟨rfl, gr⟩

set_option maxRecDepth 100000 in
set_option maxHeartbeats 2000000 in
theorem check_two (cb nb ib xb gb want : Nat) (gv : Value) (f1 f2 : Nat → Value) (w : World) (r1 : w.rowIs cb 93 511 f1) (r2 : w.rowIs nb 93 511 f2) (hx : w.heap[xb]? = some (.cells #[.pointer (some ⟨gb, 0, none⟩)] 68 (0, 0)))
    (hi : w.heap[ib]? = some (.cells #[.int .i64 want] 3 (0, 0))) (hg : w.heap[gb]? = some (.cells #[gv] 3 (0, 0))) (hgi : gb ≠ ib) (hw : want ≤ 1100)
    (h1 : ∀ j, j < 510 → NilAt (f1 j) (j = want)) (h2 : ∀ j, j < 510 → NilAt (f2 j) (510 + j = want)) :
    Calls Yba.prog 16 #[.pointer (some ⟨cb, 0, none⟩), .pointer (some ⟨nb, 0, none⟩), .func (Fn.func 29) #[] #[.pointer (some ⟨ib, 0, none⟩), .pointer (some ⟨xb, 0, none⟩)], .pointer (some ⟨gb, 0, none⟩), .int .i64 want] w
      fun e w' => e = .returned (.bool true) ∧ w.grownBy w' (some gb) := by
  have cg : w.cell? ⟨gb, 0, none⟩ = some gv := by simp [World.cell?, hg]
  have zg : w.frozen? ⟨gb, 0, none⟩ = false := by simp [World.frozen?, hg]
  have ci : w.cell? ⟨ib, 0, none⟩ = some (.int .i64 want) := by simp [World.cell?, hi]
  have cx : w.cell? ⟨xb, 0, none⟩ = some (.pointer (some ⟨gb, 0, none⟩)) := by simp [World.cell?, hx]
  have nxg : ¬ gb = xb := by
    intro e; subst e; rw [hg] at hx; simp at hx
  have nig : ¬ gb = ib := hgi
  have ncg : cb ≠ gb := by
    intro e; subst e; have := row_tag r1 hg; cases this
  have nng : nb ≠ gb := by
    intro e; subst e; have := row_tag r2 hg; cases this
  have s1 := (r1.setOther (a := ⟨gb, 0, none⟩) ncg (.int .i64 (-1))).setOther (a := ⟨gb, 0, none⟩) ncg (.int .i64 want)
  have s2 := (r2.setOther (a := ⟨gb, 0, none⟩) nng (.int .i64 (-1))).setOther (a := ⟨gb, 0, none⟩) nng (.int .i64 want)
  have q0 := fn_some
  have q1 := fn_none
  go_enter Yba.func16, Yba.ntmps16
  go_wp2_with fail
  refine (task29_calls ib xb gb want (.int .i64 (-1)) _ ?_ ?_ ?_ ?_).mono ?_
  · exact (World.cell?_setCell_other _ _ _ _ (by simp)).trans cx
  · exact (World.cell?_setCell_other _ _ _ _ (by simp)).trans ci
  · exact World.cell?_setCell_same w ⟨gb, 0, none⟩ (.int .i64 (-1)) cg
  · simp [zg]
  rintro e w1 ⟨rfl, rfl⟩
  have gr : w.grownBy ((w.setCell ⟨gb, 0, none⟩ (.int .i64 (-1))).setCell ⟨gb, 0, none⟩ (.int .i64 want)) (some gb) := (grown_set1 _ _ _ _).trans (grown_set1 _ _ _ _)
  have cg2 : ((w.setCell ⟨gb, 0, none⟩ (.int .i64 (-1))).setCell ⟨gb, 0, none⟩ (.int .i64 want)).cell? ⟨gb, 0, none⟩ = some (.int .i64 want) := World.cell?_setCell_same _ _ _ (World.cell?_setCell_same w ⟨gb, 0, none⟩ (.int .i64 (-1)) cg)
  generalize (w.setCell ⟨gb, 0, none⟩ (.int .i64 (-1))).setCell ⟨gb, 0, none⟩ (.int .i64 want) = w2 at *
  clear cg zg ci cx
  go_wp2_with fail
  clear cg2
  go_loop [11] (fun i => ∃ k : Nat, k ≤ 510 ∧ i = .int .i64 k) (fun i => 510 - (intOf i).toNat)
  case atStart => exact ⟨0, by omega, rfl⟩
  case round =>
    obtain ⟨k, hk, rfl⟩ := hrel
    by_cases hlt : k < 510
    · have hkI : (k : Int) < 510 := by omega
      have c1 := s1.cell (i := k) (by omega)
      have c2 := s2.cell (i := k) (by omega)
      rcases h1 k hlt with ⟨e1, p1⟩ | ⟨n1, a1, b1, e1, p1⟩
      · rcases h2 k hlt with ⟨e2, p2⟩ | ⟨n2, a2, b2, e2, p2⟩
        · omega
        · rw [e1] at c1
          rw [e2] at c2
          have t1 : ((k : Int) == (want : Int)) = true := by simp; omega
          have t2 : ((510 : Int) + k == (want : Int)) = false := beq_eq_false_iff_ne.2 (by omega)
          clear p1 p2
          go_wp2_with fail
          go_round
          case rel => exact ⟨k + 1, by omega, by go_num⟩
          case measure => simp [intOf]; omega
      · rcases h2 k hlt with ⟨e2, p2⟩ | ⟨n2, a2, b2, e2, p2⟩
        · rw [e1] at c1
          rw [e2] at c2
          have t1 : ((k : Int) == (want : Int)) = false := beq_eq_false_iff_ne.2 (by omega)
          have t2 : ((510 : Int) + k == (want : Int)) = true := by simp; omega
          clear p1 p2
          go_wp2_with fail
          go_round
          case rel => exact ⟨k + 1, by omega, by go_num⟩
          case measure => simp [intOf]; omega
        · rw [e1] at c1
          rw [e2] at c2
          have t1 : ((k : Int) == (want : Int)) = false := beq_eq_false_iff_ne.2 (by omega)
          have t2 : ((510 : Int) + k == (want : Int)) = false := beq_eq_false_iff_ne.2 (by omega)
          clear p1 p2
          go_wp2_with fail
          go_round
          case rel => exact ⟨k + 1, by omega, by go_num⟩
          case measure => simp [intOf]; omega
    · have hk' : k = 510 := by omega
      subst hk'
      go_wp2_with fail
      go_ret
      exact ⟨rfl, gr⟩


end Go.Proofs.Ybulkarsc
