import Derived.Test.YbulkarscLog
import Derived.Test.YbulkarscChunks
set_option linter.unusedVariables false
namespace Go.Proofs.Ybulkarsc
open Go.RowKit Go.Deep

def ints (n : Nat) : List Value := (List.range n).map fun i => Value.int .i64 (i : Nat)
theorem ints_succ (n : Nat) : ints (n + 1) = ints n ++ [Value.int .i64 (n : Nat)] := by simp [ints, List.range_succ]
theorem ints_get {n i : Nat} (h : i < n) : (ints n)[i]? = some (Value.int .i64 (i : Nat)) := by simp [ints, h]

/-- A task that logs its number. -/
def task (xb ib : Nat) : Value := .func (Fn.func 31) #[] #[.pointer (some ⟨xb, 0, none⟩), .pointer (some ⟨ib, 0, none⟩)]

/-- The task v logs the number id; its boxes are no part of the log's or the model's row. -/
def TaskAt (w : World) (lb : Nat) (vl vm : Value) (id : Nat) (v : Value) : Prop :=
  ∃ xb ib, v = task xb ib ∧ w.heap[xb]? = some (.cells #[.pointer (some ⟨lb, 0, none⟩)] 84 (0, 0)) ∧ w.heap[ib]? = some (.cells #[.int .i64 id] 3 (0, 0)) ∧ vl.ownBlock ≠ some ib ∧ vm.ownBlock ≠ some ib

theorem own_tag {w : World} {B n : Nat} {v : Value} {xs : List Value} (h : w.ownsRow B 3 1 v n xs) {b : Nat} (hb : v.ownBlock = some b) : Tag w b 3 := by
  rcases h.2 with ⟨rfl, -⟩ | ⟨g, cap, cur, rfl, -, hg, -⟩
  · cases hb
  · cases hb
    exact ⟨_, _, hg⟩

theorem not_own {w : World} {B n : Nat} {v : Value} {xs : List Value} (h : w.ownsRow B 3 1 v n xs) {b : Nat} {cs : Array Value} {t : TypeId} {fr : Nat × Nat} (hb : w.heap[b]? = some (.cells cs t fr)) (ht : t ≠ 3) : some b ≠ v.ownBlock := by
  intro e
  obtain ⟨cs', fr', hh⟩ := own_tag h e.symm
  rw [hh] at hb
  simp only [Option.some.injEq, Obj.cells.injEq] at hb
  exact ht hb.2.1.symm

/-- The state of the law's run. -/
structure St (B : Nat) (w0 w : World) (qb lb : Nat) (tv : Nat → Value) (mh nx ml nm : Nat) (vl vm : Value) : Prop where
  bel : Below B w0 w
  bs : B ≤ w.heap.size
  lB : B ≤ lb
  ch : Chunks w B qb tv mh nx
  ts : ∀ id, mh ≤ id → id < nx → TaskAt w lb vl vm id (tv id)
  lg : w.heap[lb]? = some (.cells #[vl] 78 (0, 0))
  ol : w.ownsRow B 3 1 vl ml (ints ml)
  om : w.ownsRow B 3 1 vm nm (ints nm)
  ap : ∀ b, vl.ownBlock = some b → vm.ownBlock ≠ some b

section
variable {B : Nat} {w0 w w' : World} {qb lb : Nat} {tv : Nat → Value} {mh nx ml nm : Nat} {vl vm : Value}

theorem own_keep {v : Value} {n : Nat} {xs : List Value} (h : w.ownsRow B 3 1 v n xs) (hk : ∀ (i : Nat) (cs : Array Value) (fr : Nat × Nat), w.heap[i]? = some (.cells cs 3 fr) → w'.heap[i]? = some (.cells cs 3 fr)) : w'.ownsRow B 3 1 v n xs := by
  refine ⟨h.1, ?_⟩
  rcases h.2 with h0 | ⟨g, cap, cur, q0, q1, q2, q3⟩
  · exact .inl h0
  · exact .inr ⟨g, cap, cur, q0, q1, hk _ _ _ q2, q3⟩

/-- Nothing that lay there has changed. -/
theorem St.more (h : St B w0 w qb lb tv mh nx ml nm vl vm) (hb : Below B w w') (hk : ∀ (i : Nat) (o : Obj), w.heap[i]? = some o → w'.heap[i]? = some o) : St B w0 w' qb lb tv mh nx ml nm vl vm :=
  ⟨h.bel.trans hb, Nat.le_trans h.bs hb.size, h.lB, h.ch.keep (fun i cs t fr e _ => hk i _ e), fun id h1 h2 => by
    obtain ⟨xb, ib, q1, q2, q3, q4⟩ := h.ts id h1 h2
    exact ⟨xb, ib, q1, hk _ _ q2, hk _ _ q3, q4⟩, hk _ _ h.lg, own_keep h.ol (fun i cs fr e => hk i _ e), own_keep h.om (fun i cs fr e => hk i _ e), h.ap⟩

theorem St.alloc (h : St B w0 w qb lb tv mh nx ml nm vl vm) (o : Obj) : St B w0 (w.alloc o) qb lb tv mh nx ml nm vl vm :=
  h.more ((Below.refl _ _).alloc h.bs o) (fun i o' e => (blk_alloc_lt _ _ _ (heap_lt e)).trans e)

theorem St.drew (h : St B w0 w qb lb tv mh nx ml nm vl vm) : St B w0 w.drew qb lb tv mh nx ml nm vl vm :=
  h.more (Below.refl _ _).drew (fun _ _ e => e)
theorem St.drewN (h : St B w0 w qb lb tv mh nx ml nm vl vm) (q : Nat) : St B w0 (w.drewN q) qb lb tv mh nx ml nm vl vm :=
  h.more ⟨rfl, rfl, rfl, Nat.le_refl _, fun _ _ => rfl⟩ (fun _ _ e => e)

/-- A call on the queue: what it holds now is told anew. -/
theorem St.turn {mh' nx' : Nat} (h : St B w0 w qb lb tv mh nx ml nm vl vm) (T : TurnQ B w w') (hc : Chunks w' B qb tv mh' nx') (ht : ∀ id, mh' ≤ id → id < nx' → TaskAt w lb vl vm id (tv id)) : St B w0 w' qb lb tv mh' nx' ml nm vl vm :=
  ⟨h.bel.trans T.1, Nat.le_trans h.bs T.1.size, h.lB, hc, fun id h1 h2 => by
    obtain ⟨xb, ib, q1, q2, q3, q4⟩ := ht id h1 h2
    exact ⟨xb, ib, q1, T.2 _ _ _ _ q2 (by decide) (by decide), T.2 _ _ _ _ q3 (by decide) (by decide), q4⟩, T.2 _ _ _ _ h.lg (by decide) (by decide), own_keep h.ol (fun i cs fr e => T.2 _ _ _ _ e (by decide) (by decide)), own_keep h.om (fun i cs fr e => T.2 _ _ _ _ e (by decide) (by decide)), h.ap⟩

theorem TaskAt.turn {id : Nat} {v : Value} (h : TaskAt w lb vl vm id v) (T : TurnQ B w w') : TaskAt w' lb vl vm id v := by
  obtain ⟨xb, ib, q1, q2, q3, q4⟩ := h
  exact ⟨xb, ib, q1, T.2 _ _ _ _ q2 (by decide) (by decide), T.2 _ _ _ _ q3 (by decide) (by decide), q4⟩

/-- A task is made: it may be pushed. -/
theorem St.made (h : St B w0 w qb lb tv mh nx ml nm vl vm) :
    ∃ tv', tv' nx = task w.heap.size (w.heap.size + 1) ∧ St B w0 ((w.alloc (.cells #[.pointer (some ⟨lb, 0, none⟩)] 84)).alloc (.cells #[.int .i64 (nx : Nat)] 3)) qb lb tv' mh nx ml nm vl vm ∧ TaskAt ((w.alloc (.cells #[.pointer (some ⟨lb, 0, none⟩)] 84)).alloc (.cells #[.int .i64 (nx : Nat)] 3)) lb vl vm nx (tv' nx) := by
  have h2 := (h.alloc (.cells #[.pointer (some ⟨lb, 0, none⟩)] 84)).alloc (.cells #[.int .i64 (nx : Nat)] 3)
  have e0 : (fun k => if k = nx then task w.heap.size (w.heap.size + 1) else tv k) nx = task w.heap.size (w.heap.size + 1) := if_pos rfl
  refine ⟨fun k => if k = nx then task w.heap.size (w.heap.size + 1) else tv k, e0, ⟨h2.bel, h2.bs, h2.lB, h2.ch.congr (fun k _ hk => if_neg (by omega)), fun id i1 i2 => ?_, h2.lg, h2.ol, h2.om, h2.ap⟩, w.heap.size, w.heap.size + 1, e0, ?_, ?_, ?_, ?_⟩
  · rw [if_neg (by omega)]
    exact h2.ts id i1 i2
  · exact (blk_alloc_lt _ _ _ (by simp)).trans (blk_alloc_new _ _)
  · have := blk_alloc_new (w.alloc (.cells #[.pointer (some ⟨lb, 0, none⟩)] 84)) (.cells #[.int .i64 (nx : Nat)] 3)
    rw [World.size_alloc] at this
    exact this
  · intro e
    have := (h.ol.lt _ e).2
    omega
  · intro e
    have := (h.om.lt _ e).2
    omega

/-- The model has one number more. -/
theorem St.model {vm' : Value} (h : St B w0 w qb lb tv mh nx ml nm vl vm) (hp : Pushed B (w.alloc (.cells #[.int .i64 (nm : Nat)] 3)) vm nm (ints nm) (.int .i64 (nm : Nat)) vm' w') : St B w0 w' qb lb tv mh nx ml (nm + 1) vl vm' := by
  have h2 := h.alloc (.cells #[.int .i64 (nm : Nat)] 3)
  obtain ⟨p1, hg, p3⟩ := hp
  have hkeep : ∀ (i : Nat) (o : Obj), w.heap[i]? = some o → some i ≠ vm.ownBlock → w'.heap[i]? = some o := fun i o e ne =>
    (hg.block i (by have := heap_lt e; simp; omega) ne).trans ((blk_alloc_lt _ _ _ (heap_lt e)).trans e)
  refine ⟨h2.bel.grown hg h2.bs (fun k e => (h.om.lt k e).1), Nat.le_trans h2.bs hg.size, h.lB, h.ch.keep (fun i cs t fr e ht => hkeep i _ e (not_own h.om e (by rcases ht with rfl | rfl <;> decide))), fun id i1 i2 => ?_, hkeep _ _ h.lg (not_own h.om h.lg (by decide)), h2.ol.kept hg ?_, ?_, fun b e => ?_⟩
  · obtain ⟨xb, ib, q1, q2, q3, q4, q5⟩ := h.ts id i1 i2
    refine ⟨xb, ib, q1, hkeep _ _ q2 (not_own h.om q2 (by decide)), hkeep _ _ q3 (fun e => q5 e.symm), q4, ?_⟩
    rcases p3 with p3 | p3
    · rw [p3]; exact q5
    · rw [p3]
      intro e
      have := heap_lt q3
      simp at e
      omega
  · cases hv : vl.ownBlock with
    | none => exact .inl rfl
    | some b => exact .inr (fun e => h.ap b hv e.symm)
  · rw [ints_succ]; exact p1
  · rcases p3 with p3 | p3
    · rw [p3]; exact h.ap b e
    · rw [p3]
      intro e2
      have := (h.ol.lt b e).2
      simp at e2
      omega

/-- The log has one number more. -/
theorem St.log {vl' : Value} (h : St B w0 w qb lb tv mh nx ml nm vl vm) (hp : Pushed B (w.alloc (.cells #[.int .i64 (ml : Nat)] 3)).drew vl ml (ints ml) (.int .i64 (ml : Nat)) vl' w') : St B w0 (w'.setCell ⟨lb, 0, none⟩ vl') qb lb tv mh nx (ml + 1) nm vl' vm := by
  have h2 := (h.alloc (.cells #[.int .i64 (ml : Nat)] 3)).drew
  obtain ⟨p1, hg, p3⟩ := hp
  have hkeep : ∀ (i : Nat) (o : Obj), w.heap[i]? = some o → some i ≠ vl.ownBlock → w'.heap[i]? = some o := fun i o e ne =>
    (hg.block i (by have := heap_lt e; show i < (w.alloc _).heap.size; simp; omega) ne).trans ((blk_alloc_lt _ _ _ (heap_lt e)).trans e)
  have hlg : w'.heap[lb]? = _ := hkeep _ _ h.lg (not_own h.ol h.lg (by decide))
  have hne : ∀ (i : Nat) (cs : Array Value) (t : TypeId) (fr : Nat × Nat), w.heap[i]? = some (.cells cs t fr) → t ≠ 78 → i ≠ lb := by
    intro i cs t fr e ht e2
    subst e2
    rw [h.lg] at e
    simp only [Option.some.injEq, Obj.cells.injEq] at e
    exact ht e.2.1.symm
  have hset : ∀ (i : Nat) (o : Obj), w'.heap[i]? = some o → i ≠ lb → (w'.setCell ⟨lb, 0, none⟩ vl').heap[i]? = some o := fun i o e ne => (blk_setCell_other _ _ _ _ ne).trans e
  have hownk : ∀ {v : Value} {n : Nat} {xs : List Value}, w'.ownsRow B 3 1 v n xs → (w'.setCell ⟨lb, 0, none⟩ vl').ownsRow B 3 1 v n xs := fun {v n xs} hv => own_keep hv (fun i cs fr e => hset i _ e (by
    intro e2
    subst e2
    rw [hlg] at e
    simp only [Option.some.injEq, Obj.cells.injEq] at e
    have := e.2.1
    cases this))
  refine ⟨(h2.bel.grown hg h2.bs (fun k e => (h.ol.lt k e).1)).setCell h.lB _, by rw [World.size_setCell]; exact Nat.le_trans h2.bs hg.size, h.lB, h.ch.keep (fun i cs t fr e ht => hset i _ (hkeep i _ e (not_own h.ol e (by rcases ht with rfl | rfl <;> decide))) (hne i _ _ _ e (by rcases ht with rfl | rfl <;> decide))), fun id i1 i2 => ?_, ?_, ?_, hownk (h2.om.kept hg ?_), fun b e => ?_⟩
  · obtain ⟨xb, ib, q1, q2, q3, q4, q5⟩ := h.ts id i1 i2
    refine ⟨xb, ib, q1, hset _ _ (hkeep _ _ q2 (not_own h.ol q2 (by decide))) (hne _ _ _ _ q2 (by decide)), hset _ _ (hkeep _ _ q3 (fun e => q4 e.symm)) (hne _ _ _ _ q3 (by decide)), ?_, q5⟩
    rcases p3 with p3 | p3
    · rw [p3]; exact q4
    · rw [p3]
      intro e
      have := heap_lt q3
      have e2 : (w.alloc (.cells #[.int .i64 (ml : Nat)] 3)).heap.size = ib := Option.some.inj e
      simp at e2
      omega
  · exact heap_setCell_same _ lb 0 _ 78 vl' hlg
  · rw [ints_succ]; exact hownk p1
  · cases hv : vm.ownBlock with
    | none => exact .inl rfl
    | some b => exact .inr (fun e => h.ap b e.symm hv)
  · rcases p3 with p3 | p3
    · rw [p3] at e; exact h.ap b e
    · rw [p3] at e
      intro e2
      have := (h.om.lt b e2).2
      have e3 : (w.alloc (.cells #[.int .i64 (ml : Nat)] 3)).heap.size = b := Option.some.inj e
      simp at e3
      omega
end

end Go.Proofs.Ybulkarsc
