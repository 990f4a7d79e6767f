import Derived.Test.YbulkarscQ2
import Derived.Maps.AppendAt
import Derived.Laws.OwnMore
import Derived.OwnWalk
import Derived.Deep.AppendLies
import Derived.Deep.RegionLaw
set_option linter.unusedVariables false
namespace Go.Proofs.Ybulkarsc
open Go.RowKit Go.Deep

theorem cmk_calls (lb : Nat) (id : Int) (w : World) :
    Calls Yba.prog 19 #[.pointer (some ⟨lb, 0, none⟩), .int .i64 id] w fun r w' => r = .returned (.func (Fn.func 31) #[] #[.pointer (some ⟨w.heap.size, 0, none⟩), .pointer (some ⟨w.heap.size + 1, 0, none⟩)]) ∧
      w' = (w.alloc (.cells #[.pointer (some ⟨lb, 0, none⟩)] 84)).alloc (.cells #[.int .i64 id] 3) := by
  go_enter Yba.func19, Yba.ntmps19
  go_wp2_with fail
  go_ret
  exact ⟨rfl, rfl⟩

theorem Yba.info3' : (Yba.prog.info? 3).map (fun i => (i.zero, i.size, i.bytes)) = some (some (.int .i64 0), 1, 8) := by kernel_rfl

/-- One number more behind a row of the law's own: what the append leaves. -/
def Pushed (B : Nat) (w : World) (v : Value) (n : Nat) (xs : List Value) (u v' : Value) (w' : World) : Prop :=
  w'.ownsRow B 3 1 v' (n + 1) (xs ++ [u]) ∧ w.grownBy w' v.ownBlock ∧ (v'.ownBlock = v.ownBlock ∨ v'.ownBlock = some w.heap.size)

theorem run_push (ty : TypeId) (B : Nat) (v : Value) (n : Nat) (xs : List Value) (u : Value) (G : Nat) (w : World) (hown : w.ownsRow B 3 1 v n xs) (hc : w.heap[G]? = some (.cells #[u] 3 (0, 0))) (h1 : u.oneCell' = true) (hn : n ≤ 1000000) (hB : B ≤ w.heap.size) :
    ∃ v' w', (Builtin.append_ #[78, 78] ty #[v, .slice (some ⟨G, 0, none⟩) 1 1]).run Yba.prog w = .ok v' w' ∧ Pushed B w v n xs u v' w' := by
  obtain ⟨i, hi, hxx⟩ := Option.map_eq_some_iff.1 Yba.info3'
  simp only [Prod.mk.injEq] at hxx
  obtain ⟨hz0, hz1, hz2⟩ := hxx
  obtain ⟨v', w', hr, h2, h3, _, h5⟩ := run_append_own_at (P := Yba.prog) w B 78 ty 3 i (.int .i64 0) 1 8 Yba.underlying78 hi hz0 hz1 hz2 rfl (by decide) v n xs hown ⟨G, 0, none⟩ 1 1 [u] rfl (World.news_of_block hc) (by simpa using h1) (by unfold maxLen; omega) (by omega) hB
  exact ⟨v', w', hr, h2, h3, h5⟩

theorem step_push {w : World} {ops : Array Oper} {o : Oper} {a : Act} {K : Act → World → Prop} {Q : Exit → Act → World → Prop} {E : Prop} (hgd : o.guard = none) (s x : Operand) (ho : o.op = .call { callee := .builtin .append, args := #[s, x], argTypes := #[78, 78] })
    (v xv : Value) (hs : a.eval s = v) (hx : a.eval x = xv) (v' : Value) (w' : World) (hr : (Builtin.append_ #[78, 78] o.type #[v, xv]).run Yba.prog w = .ok v' w') (h : K (a.put o.dst v') w') :
    if Region.wanted o (yielded ops a.tmps) = true then Oper.wp Yba.prog o a w K Q else E := by
  have hw : Region.wanted o (yielded ops a.tmps) = true := by simp [Region.wanted, hgd]
  rw [if_pos hw]
  unfold Oper.wp execOp
  simp only [ho, resolve, invoke, builtin, Sem.run_bind, Sem.run_pure, Result.andThen_ok, List.map_toArray, List.map_cons, List.map_nil, hs, hx, hr]
  exact h

theorem list_push {w : World} {ops : Array Oper} {rest : List Oper} {o : Oper} {a : Act} {Q : Exit → Act → World → Prop} (hgd : o.guard = none) (s x : Operand) (ho : o.op = .call { callee := .builtin .append, args := #[s, x], argTypes := #[78, 78] })
    (v xv : Value) (hs : a.eval s = v) (hx : a.eval x = xv) (v' : Value) (w' : World) (hr : (Builtin.append_ #[78, 78] o.type #[v, xv]).run Yba.prog w = .ok v' w') (h : wpList Yba.prog ops Q rest (a.put o.dst v') w') :
    wpList Yba.prog ops Q (o :: rest) a w := by
  refine wpList_plain hgd fun K hK => ?_
  unfold Oper.wp execOp
  simp only [ho, resolve, invoke, builtin, Sem.run_bind, Sem.run_pure, Result.andThen_ok, List.map_toArray, List.map_cons, List.map_nil, hs, hx, hr]
  exact hK _ _ h

set_option maxRecDepth 100000 in
set_option maxHeartbeats 2000000 in
theorem run_calls (B lb xb ib n : Nat) (id : Int) (vlog : Value) (xs : List Value) (w : World) (hx : w.heap[xb]? = some (.cells #[.pointer (some ⟨lb, 0, none⟩)] 84 (0, 0))) (hi : w.heap[ib]? = some (.cells #[.int .i64 id] 3 (0, 0)))
    (hl : w.heap[lb]? = some (.cells #[vlog] 78 (0, 0))) (hown : w.ownsRow B 3 1 vlog n xs) (hn : n ≤ 1000000) (hB : B ≤ w.heap.size) :
    Calls Yba.prog 31 #[.pointer none, .pointer (some ⟨xb, 0, none⟩), .pointer (some ⟨ib, 0, none⟩)] w fun r w' => r = .returned (.tuple #[]) ∧ ∃ v' w1, Pushed B (w.alloc (.cells #[.int .i64 id] 3)).drew vlog n xs (.int .i64 id) v' w1 ∧ w' = w1.setCell ⟨lb, 0, none⟩ v' := by
  have cx : w.cell? ⟨xb, 0, none⟩ = some (.pointer (some ⟨lb, 0, none⟩)) := by simp [World.cell?, hx]
  have ci : w.cell? ⟨ib, 0, none⟩ = some (.int .i64 id) := by simp [World.cell?, hi]
  have cl : w.cell? ⟨lb, 0, none⟩ = some vlog := by simp [World.cell?, hl]
  have l1 := heap_lt hx
  have l2 := heap_lt hi
  have l3 := heap_lt hl
  obtain ⟨v', w1, hr, hp⟩ := run_push 78 B vlog n xs (.int .i64 id) w.heap.size (w.alloc (.cells #[.int .i64 id] 3)).drew (hown.alloc _) (blk_alloc_new w _) rfl hn (by show B ≤ (w.alloc _).heap.size; simp; omega)
  have nlo : vlog.ownBlock ≠ some lb ∧ vlog.ownBlock ≠ some xb := by
    refine ⟨fun e => ?_, fun e => ?_⟩ <;>
    · rcases hown.2 with ⟨rfl, -⟩ | ⟨g, cap, cur, rfl, -, hg, -⟩
      · cases e
      · cases e
        first
          | (rw [hg] at hl; simp only [Option.some.injEq, Obj.cells.injEq] at hl; have := hl.2.1; cases this)
          | (rw [hg] at hx; simp only [Option.some.injEq, Obj.cells.injEq] at hx; have := hx.2.1; cases this)
  have k1 : w1.heap[lb]? = some (.cells #[vlog] 78 (0, 0)) := (hp.2.1.block lb (by show lb < (w.alloc _).heap.size; simp; omega) (fun e => nlo.1 e.symm)).trans ((blk_alloc_lt _ _ _ l3).trans hl)
  have k2 : w1.heap[xb]? = some (.cells #[.pointer (some ⟨lb, 0, none⟩)] 84 (0, 0)) := (hp.2.1.block xb (by show xb < (w.alloc _).heap.size; simp; omega) (fun e => nlo.2 e.symm)).trans ((blk_alloc_lt _ _ _ l1).trans hx)
  have m1 : w1.cell? ⟨lb, 0, none⟩ = some vlog := by simp [World.cell?, k1]
  have m2 : w1.frozen? ⟨lb, 0, none⟩ = false := by simp [World.frozen?, k1]
  have m3 : w1.cell? ⟨xb, 0, none⟩ = some (.pointer (some ⟨lb, 0, none⟩)) := by simp [World.cell?, k2]
  have nx : ¬ lb = xb := by
    intro e; subst e; rw [hl] at hx; simp only [Option.some.injEq, Obj.cells.injEq] at hx; have := hx.2.1; cases this
  obtain ⟨sp, sk, sc, rfl⟩ : ∃ p k c, v' = Value.slice p k c := by
    rcases hp.1.2 with ⟨rfl, -⟩ | ⟨g, cap, cur, rfl, -⟩
    · exact ⟨_, _, _, rfl⟩
    · exact ⟨_, _, _, rfl⟩
  have HP : Hid (Pushed B (w.alloc (.cells #[.int .i64 id] 3)).drew vlog n xs (.int .i64 id) (Value.slice sp sk sc) w1) := hp
  clear hp k1 k2 hown hx hi hl nlo
  go_enter Yba.func31, Yba.ntmps31
  go_wp2_with fail
  go_region_law (refine step_push rfl _ _ rfl _ _ rfl rfl (Value.slice sp sk sc) w1 hr ?_)
  all_goals (go_wp2_with fail; go_end0; exact ⟨rfl, _, w1, HP.out, rfl⟩)

end Go.Proofs.Ybulkarsc
