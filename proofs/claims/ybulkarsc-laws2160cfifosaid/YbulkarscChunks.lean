import Derived.Test.YbulkarscQ2
set_option linter.unusedVariables false
namespace Go.Proofs.Ybulkarsc
open Go.RowKit Go.Deep

/-- A block's tag. -/
def Tag (w : World) (b : Nat) (t : TypeId) : Prop := ∃ cs fr, w.heap[b]? = some (.cells cs t fr)
theorem Tag.setCell {w : World} {b g j : Nat} {t : TypeId} (h : Tag w b t) (v : Value) : Tag (w.setCell ⟨g, j, none⟩ v) b t := by
  obtain ⟨cs, fr, hb⟩ := h
  by_cases e : g = b
  · subst e
    exact ⟨cs.setIfInBounds j v, fr, by simp [World.setCell, Array.getElem?_modify, hb]⟩
  · exact ⟨cs, fr, (blk_setCell_other _ _ _ _ (fun e2 => e e2.symm)).trans hb⟩
theorem Tag.alloc {w : World} {b : Nat} {t : TypeId} (h : Tag w b t) (o : Obj) : Tag (w.alloc o) b t := by
  obtain ⟨cs, fr, hb⟩ := h
  exact ⟨cs, fr, (blk_alloc_lt _ _ _ (heap_lt hb)).trans hb⟩
theorem tag_row {w : World} {b n : Nat} {t : TypeId} {f : Nat → Value} (h : w.rowIs b t n f) : Tag w b t := by
  obtain ⟨c, hb, -⟩ := h
  exact ⟨c, _, hb⟩

/-- What a call on the queue turns: the queue's block and its chunks, all of the law's own, and no other. -/
def TurnQ (B : Nat) (w w' : World) : Prop :=
  Below B w w' ∧ ∀ (i : Nat) (cs : Array Value) (t : TypeId) (fr : Nat × Nat), w.heap[i]? = some (.cells cs t fr) → t ≠ 56 → t ≠ 93 → w'.heap[i]? = some (.cells cs t fr)

theorem TurnQ.refl (B : Nat) (w : World) : TurnQ B w w := ⟨Below.refl _ _, fun _ _ _ _ h _ _ => h⟩
theorem TurnQ.drew {B : Nat} {w w1 : World} (h : TurnQ B w w1) : TurnQ B w w1.drew := ⟨h.1.drew, h.2⟩
theorem TurnQ.drewN {B : Nat} {w : World} (q : Nat) : TurnQ B w (w.drewN q) := ⟨⟨rfl, rfl, rfl, Nat.le_refl _, fun _ _ => rfl⟩, fun _ _ _ _ h _ _ => h⟩
theorem TurnQ.alloc {B : Nat} {w w1 : World} (h : TurnQ B w w1) (hB : B ≤ w1.heap.size) (o : Obj) : TurnQ B w (w1.alloc o) :=
  ⟨h.1.alloc hB o, fun i cs t fr e h1 h2 => (blk_alloc_lt _ _ _ (heap_lt (h.2 i cs t fr e h1 h2))).trans (h.2 i cs t fr e h1 h2)⟩
theorem TurnQ.setCell {B : Nat} {w w1 : World} (h : TurnQ B w w1) {tb j : Nat} {t : TypeId} (hB : B ≤ tb) (hT : Tag w1 tb t) (ht : t = 56 ∨ t = 93) (v : Value) : TurnQ B w (w1.setCell ⟨tb, j, none⟩ v) := by
  refine ⟨h.1.setCell hB v, fun i cs t' fr e h1 h2 => ?_⟩
  have e2 := h.2 i cs t' fr e h1 h2
  rw [blk_setCell_other _ _ _ _ (by
    intro e3
    simp at e3
    subst e3
    obtain ⟨cs', fr', hb⟩ := hT
    rw [hb] at e2
    simp only [Option.some.injEq, Obj.cells.injEq] at e2
    rcases ht with ht | ht
    · exact h1 (e2.2.1.symm.trans ht)
    · exact h2 (e2.2.1.symm.trans ht))]
  exact e2

/-- The queue holds the tasks tv mh .. tv (nx-1): chunks hk .. tk lie in blocks cb hk .. cb tk. -/
structure Body (w : World) (B qb : Nat) (tv : Nat → Value) (mh nx hk tk : Nat) (cb : Nat → Nat) : Prop where
  hB : B ≤ qb
  hkt : hk ≤ tk
  m1 : 510 * hk ≤ mh
  m2 : mh ≤ 510 * hk + 510
  mn : mh ≤ nx
  n1 : 510 * tk ≤ nx
  n2 : nx ≤ 510 * tk + 510
  me : mh = 510 * hk + 510 → hk = tk
  q : w.heap[qb]? = some (.cells (qcells (some ⟨cb hk, 0, none⟩) (some ⟨cb tk, 0, none⟩) (mh - 510 * hk) (nx - 510 * tk) (nx - mh)) 56 (0, 0))
  row : ∀ k, hk ≤ k → k ≤ tk → B ≤ cb k ∧ ∃ f, w.rowIs (cb k) 93 511 f ∧ (k < tk → f 510 = .pointer (some ⟨cb (k + 1), 0, none⟩)) ∧ ∀ j, j < 510 → mh ≤ 510 * k + j → 510 * k + j < nx → f j = tv (510 * k + j)
  inj : ∀ k l, hk ≤ k → k < l → l ≤ tk → cb k ≠ cb l

theorem Body.nq {w : World} {B qb : Nat} {tv : Nat → Value} {mh nx hk tk : Nat} {cb : Nat → Nat} (h : Body w B qb tv mh nx hk tk cb) (k : Nat) (h1 : hk ≤ k) (h2 : k ≤ tk) : cb k ≠ qb := by
  obtain ⟨-, f, hr, -⟩ := h.row k h1 h2
  intro e
  rw [e] at hr
  have := row_tag hr h.q
  cases this

theorem Body.store {w : World} {B qb : Nat} {tv : Nat → Value} {mh nx hk tk : Nat} {cb : Nat → Nat} (h : Body w B qb tv mh nx hk tk cb) (hlt : nx < 510 * tk + 510) :
    Body (stored w qb (cb tk) (nx - 510 * tk) (nx - mh) (tv nx)) B qb tv mh (nx + 1) hk tk cb ∧ TurnQ B w (stored w qb (cb tk) (nx - 510 * tk) (nx - mh) (tv nx)) := by
  have hq := h.nq
  have hmn := h.mn
  have hn1 := h.n1
  refine ⟨⟨h.hB, h.hkt, h.m1, h.m2, by omega, by omega, by omega, h.me, ?_, ?_, h.inj⟩, ?_⟩
  · have e0 : (w.setCell ⟨cb tk, nx - 510 * tk, none⟩ (tv nx)).heap[qb]? = _ := (blk_setCell_other _ _ _ _ (fun e => hq tk h.hkt (Nat.le_refl _) e.symm)).trans h.q
    have e1 := heap_setCell_same _ qb 4 _ 56 (.int .i64 ((nx - mh) + 1 : Nat)) (heap_setCell_same _ qb 3 _ 56 (.int .i64 ((nx - 510 * tk) + 1 : Nat)) e0)
    have a1 : nx + 1 - 510 * tk = nx - 510 * tk + 1 := by omega
    have a2 : nx + 1 - mh = nx - mh + 1 := by omega
    rw [a1, a2]
    exact e1
  · intro k h1 h2
    obtain ⟨hBk, f, hr, hl, hf⟩ := h.row k h1 h2
    by_cases e : k = tk
    · subst e
      refine ⟨hBk, _, (((hr.set (nx - 510 * k) (tv nx)).setOther (a := ⟨qb, 3, none⟩) (hq k h1 h2) _).setOther (a := ⟨qb, 4, none⟩) (hq k h1 h2) _), fun hx => by omega, fun j hj j1 j2 => ?_⟩
      by_cases ej : j = nx - 510 * k
      · rw [if_pos ej]
        congr 1
        omega
      · rw [if_neg ej]
        exact hf j hj j1 (by omega)
    · refine ⟨hBk, f, (((hr.setOther (a := ⟨cb tk, nx - 510 * tk, none⟩) (h.inj k tk h1 (by omega) (Nat.le_refl _)) _).setOther (a := ⟨qb, 3, none⟩) (hq k h1 h2) _).setOther (a := ⟨qb, 4, none⟩) (hq k h1 h2) _), hl, fun j hj j1 j2 => hf j hj j1 (by omega)⟩
  · obtain ⟨hBk, f, hr, -⟩ := h.row tk h.hkt (Nat.le_refl _)
    have tq : Tag w qb 56 := ⟨_, _, h.q⟩
    exact ((((TurnQ.refl B w).setCell hBk (tag_row hr) (.inr rfl) _).setCell h.hB (tq.setCell _) (.inl rfl) _).setCell h.hB ((tq.setCell _).setCell _) (.inl rfl) _).drew

/-- Behind a full last chunk a new one. -/
def grown (z : Array Value) (w : World) (qb tb : Nat) : World := (((w.setCell ⟨tb, 510, none⟩ (.pointer (some ⟨w.heap.size, 0, none⟩))).setCell ⟨qb, 1, none⟩ (.pointer (some ⟨w.heap.size, 0, none⟩))).setCell ⟨qb, 3, none⟩ (.int .i64 0)).alloc (.cells z 93)

theorem Body.grow {w : World} {B qb : Nat} {tv : Nat → Value} {mh nx hk tk : Nat} {cb : Nat → Nat} (h : Body w B qb tv mh nx hk tk cb) (he : nx = 510 * tk + 510) (hlt : mh < nx) (hBs : B ≤ w.heap.size) :
    Body (grown Yba.zeroCells93 w qb (cb tk)) B qb tv mh nx hk (tk + 1) (fun k => if k = tk + 1 then w.heap.size else cb k) ∧ TurnQ B w (grown Yba.zeroCells93 w qb (cb tk)) := by
  have hq := h.nq
  have hm2 := h.m2
  have hme := h.me
  have hkt := h.hkt
  have ltq := heap_lt h.q
  have hqa : (grown Yba.zeroCells93 w qb (cb tk)).heap[qb]? = _ := (blk_alloc_lt _ _ _ (by simp; omega)).trans (heap_setCell_same _ qb 3 _ 56 (.int .i64 0) (heap_setCell_same _ qb 1 _ 56 (.pointer (some ⟨w.heap.size, 0, none⟩)) ((blk_setCell_other _ _ _ _ (fun e => hq tk h.hkt (Nat.le_refl _) e.symm)).trans h.q)))
  refine ⟨⟨h.hB, by omega, h.m1, h.m2, h.mn, by omega, by omega, fun e => by have := hme e; omega, ?_, ?_, ?_⟩, ?_⟩
  · have a1 : nx - 510 * (tk + 1) = 0 := by omega
    rw [a1, if_neg (by omega), if_pos rfl]
    exact hqa
  · intro k h1 h2
    by_cases e : k = tk + 1
    · subst e
      rw [if_pos rfl]
      refine ⟨hBs, zf, zero_row _ _ (by simp), fun hx => by omega, fun j hj j1 j2 => by omega⟩
    · rw [if_neg e]
      obtain ⟨hBk, f, hr, hl, hf⟩ := h.row k h1 (by omega)
      by_cases e2 : k = tk
      · subst e2
        refine ⟨hBk, _, (((hr.set 510 (.pointer (some ⟨w.heap.size, 0, none⟩))).setOther (a := ⟨qb, 1, none⟩) (hq k h1 (by omega)) _).setOther (a := ⟨qb, 3, none⟩) (hq k h1 (by omega)) _).alloc _, fun hx => ?_, fun j hj j1 j2 => ?_⟩
        · rw [if_pos rfl, if_pos rfl]
        · rw [if_neg (by omega)]
          exact hf j hj j1 j2
      · refine ⟨hBk, f, (((hr.setOther (a := ⟨cb tk, 510, none⟩) (h.inj k tk h1 (by omega) (Nat.le_refl _)) _).setOther (a := ⟨qb, 1, none⟩) (hq k h1 (by omega)) _).setOther (a := ⟨qb, 3, none⟩) (hq k h1 (by omega)) _).alloc _, fun hx => ?_, hf⟩
        rw [if_neg (by omega)]
        exact hl (by omega)
  · intro k l h1 h2 h3
    have lk : cb k < w.heap.size := by
      obtain ⟨-, f, hr, -⟩ := h.row k h1 (by omega)
      exact hr.lt
    by_cases e : l = tk + 1
    · rw [if_pos e, if_neg (by omega)]
      omega
    · rw [if_neg e, if_neg (by omega)]
      exact h.inj k l h1 h2 (by omega)
  · obtain ⟨hBk, f, hr, -⟩ := h.row tk h.hkt (Nat.le_refl _)
    have tq : Tag w qb 56 := ⟨_, _, h.q⟩
    exact ((((TurnQ.refl B w).setCell hBk (tag_row hr) (.inr rfl) _).setCell h.hB (tq.setCell _) (.inl rfl) _).setCell h.hB ((tq.setCell _).setCell _) (.inl rfl) _).alloc (by simpa using hBs) _

/-- The one chunk, run through: a new one in its place. -/
def wrapped (z : Array Value) (w : World) (qb tb : Nat) : World := (((grown z w qb tb).setCell ⟨qb, 0, none⟩ (.pointer (some ⟨w.heap.size, 0, none⟩))).setCell ⟨tb, 510, none⟩ (.pointer none)).setCell ⟨qb, 2, none⟩ (.int .i64 0)

theorem Body.wrap {w : World} {B qb : Nat} {tv : Nat → Value} {nx hk tk : Nat} {cb : Nat → Nat} (h : Body w B qb tv nx nx hk tk cb) (he : nx = 510 * tk + 510) (hBs : B ≤ w.heap.size) :
    Body (wrapped Yba.zeroCells93 w qb (cb tk)) B qb tv nx nx (tk + 1) (tk + 1) (fun _ => w.heap.size) ∧ TurnQ B w (wrapped Yba.zeroCells93 w qb (cb tk)) := by
  have hq := h.nq
  have ltq := heap_lt h.q
  have hqt := hq tk h.hkt (Nat.le_refl _)
  obtain ⟨hBk, f, hr, -⟩ := h.row tk h.hkt (Nat.le_refl _)
  have ltr := hr.lt
  have tq : Tag w qb 56 := ⟨_, _, h.q⟩
  have hqa : (grown Yba.zeroCells93 w qb (cb tk)).heap[qb]? = _ := (blk_alloc_lt _ _ _ (by simp; omega)).trans (heap_setCell_same _ qb 3 _ 56 (.int .i64 0) (heap_setCell_same _ qb 1 _ 56 (.pointer (some ⟨w.heap.size, 0, none⟩)) ((blk_setCell_other _ _ _ _ (fun e => hqt e.symm)).trans h.q)))
  have hqb : (wrapped Yba.zeroCells93 w qb (cb tk)).heap[qb]? = _ := heap_setCell_same _ qb 2 _ 56 (.int .i64 0) ((blk_setCell_other _ _ _ _ (fun e => hqt e.symm)).trans (heap_setCell_same _ qb 0 _ 56 (.pointer (some ⟨w.heap.size, 0, none⟩)) hqa))
  have tg : TurnQ B w (grown Yba.zeroCells93 w qb (cb tk)) := ((((TurnQ.refl B w).setCell hBk (tag_row hr) (.inr rfl) _).setCell h.hB (tq.setCell _) (.inl rfl) _).setCell h.hB ((tq.setCell _).setCell _) (.inl rfl) _).alloc (by simpa using hBs) _
  have tq1 : Tag (grown Yba.zeroCells93 w qb (cb tk)) qb 56 := ⟨_, _, hqa⟩
  have tr1 : Tag (grown Yba.zeroCells93 w qb (cb tk)) (cb tk) 93 := ((((tag_row hr).setCell _).setCell _).setCell _).alloc _
  have z0 : (grown Yba.zeroCells93 w qb (cb tk)).rowIs w.heap.size 93 511 zf := zero_row _ _ (by simp)
  refine ⟨⟨h.hB, Nat.le_refl _, by omega, by omega, Nat.le_refl _, by omega, by omega, fun _ => rfl, ?_, ?_, fun k l h1 h2 h3 => by omega⟩, ?_⟩
  · have a1 : nx - 510 * (tk + 1) = 0 := by omega
    have a2 : nx - nx = 0 := by omega
    rw [a2] at hqb
    rw [a1, a2]
    exact hqb
  · intro k h1 h2
    have n1 : w.heap.size ≠ qb := by omega
    have n2 : w.heap.size ≠ cb tk := by omega
    exact ⟨hBs, zf, (((z0.setOther (a := ⟨qb, 0, none⟩) n1 _).setOther (a := ⟨cb tk, 510, none⟩) n2 _).setOther (a := ⟨qb, 2, none⟩) n1 _), fun hx => by omega, fun j hj j1 j2 => by omega⟩
  · exact (((tg.setCell h.hB tq1 (.inl rfl) _).setCell hBk (tr1.setCell _) (.inr rfl) _).setCell h.hB ((tq1.setCell _).setCell _) (.inl rfl) _)

/-- The zero queue with its first chunk. -/
def opened (z : Array Value) (w : World) (qb : Nat) : World := ((w.setCell ⟨qb, 1, none⟩ (.pointer (some ⟨w.heap.size, 0, none⟩))).setCell ⟨qb, 0, none⟩ (.pointer (some ⟨w.heap.size, 0, none⟩))).alloc (.cells z 93)

theorem body_open {w : World} {B qb : Nat} (tv : Nat → Value) (hB : B ≤ qb) (h : w.heap[qb]? = some (.cells (qcells none none 0 0 0) 56 (0, 0))) (hBs : B ≤ w.heap.size) :
    Body (opened Yba.zeroCells93 w qb) B qb tv 0 0 0 0 (fun _ => w.heap.size) ∧ TurnQ B w (opened Yba.zeroCells93 w qb) := by
  have ltq := heap_lt h
  have tq : Tag w qb 56 := ⟨_, _, h⟩
  have hqa : (opened Yba.zeroCells93 w qb).heap[qb]? = _ := (blk_alloc_lt _ _ _ (by simp; omega)).trans (heap_setCell_same _ qb 0 _ 56 (.pointer (some ⟨w.heap.size, 0, none⟩)) (heap_setCell_same _ qb 1 _ 56 (.pointer (some ⟨w.heap.size, 0, none⟩)) h))
  refine ⟨⟨hB, Nat.le_refl _, by omega, by omega, Nat.le_refl _, by omega, by omega, fun _ => rfl, hqa, ?_, fun k l h1 h2 h3 => by omega⟩, ?_⟩
  · intro k h1 h2
    exact ⟨hBs, zf, zero_row _ _ (by simp), fun hx => by omega, fun j hj j1 j2 => by omega⟩
  · exact (((TurnQ.refl B w).setCell hB tq (.inl rfl) _).setCell hB (tq.setCell _) (.inl rfl) _).alloc (by simpa using hBs) _

/-- The oldest task taken out of its slot. -/
def popped (w : World) (q qb hb a n : Nat) : World := (((w.drewN q).setCell ⟨hb, a, none⟩ .nilFunc).setCell ⟨qb, 2, none⟩ (.int .i64 (a + 1 : Nat))).setCell ⟨qb, 4, none⟩ (.int .i64 n)

theorem Body.pop {w : World} {B qb : Nat} {tv : Nat → Value} {mh nx hk tk : Nat} {cb : Nat → Nat} (h : Body w B qb tv mh nx hk tk cb) (hlt : mh < nx) (q : Nat) (hx : mh + 1 < 510 * hk + 510 ∨ hk = tk) :
    Body (popped w q qb (cb hk) (mh - 510 * hk) (nx - mh - 1)) B qb tv (mh + 1) nx hk tk cb ∧ TurnQ B w (popped w q qb (cb hk) (mh - 510 * hk) (nx - mh - 1)) := by
  have hq := h.nq
  have hm1 := h.m1
  have hm2 := h.m2
  have hme := h.me
  have hn2 := h.n2
  have hqh := hq hk (Nat.le_refl _) h.hkt
  obtain ⟨hBk, f, hr, hl, hf⟩ := h.row hk (Nat.le_refl _) h.hkt
  have tq : Tag w qb 56 := ⟨_, _, h.q⟩
  refine ⟨⟨h.hB, h.hkt, by omega, by rcases hx with hx | hx <;> omega, by omega, h.n1, h.n2, fun e => by omega, ?_, ?_, h.inj⟩, ?_⟩
  · have e0 : ((w.drewN q).setCell ⟨cb hk, mh - 510 * hk, none⟩ .nilFunc).heap[qb]? = _ := (blk_setCell_other _ _ _ _ (fun e => hqh e.symm)).trans h.q
    have e1 := heap_setCell_same _ qb 4 _ 56 (.int .i64 (nx - mh - 1 : Nat)) (heap_setCell_same _ qb 2 _ 56 (.int .i64 ((mh - 510 * hk) + 1 : Nat)) e0)
    have a1 : mh + 1 - 510 * hk = mh - 510 * hk + 1 := by omega
    have a2 : nx - (mh + 1) = nx - mh - 1 := by omega
    rw [a1, a2]
    exact e1
  · intro k h1 h2
    by_cases e : k = hk
    · subst e
      have hr' : (w.drewN q).rowIs (cb k) 93 511 f := hr
      refine ⟨hBk, _, (((hr'.set (mh - 510 * k) .nilFunc).setOther (a := ⟨qb, 2, none⟩) hqh _).setOther (a := ⟨qb, 4, none⟩) hqh _), fun hx => ?_, fun j hj j1 j2 => ?_⟩
      · rw [if_neg (by omega)]
        exact hl hx
      · rw [if_neg (by omega)]
        exact hf j hj (by omega) j2
    · obtain ⟨hBk, f, hr, hl, hf⟩ := h.row k h1 h2
      have hr' : (w.drewN q).rowIs (cb k) 93 511 f := hr
      exact ⟨hBk, f, (((hr'.setOther (a := ⟨cb hk, mh - 510 * hk, none⟩) (fun e2 => h.inj hk k (Nat.le_refl _) (by omega) h2 e2.symm) _).setOther (a := ⟨qb, 2, none⟩) (hq k h1 h2) _).setOther (a := ⟨qb, 4, none⟩) (hq k h1 h2) _), hl, fun j hj j1 j2 => hf j hj (by omega) j2⟩
  · have tr : Tag (w.drewN q) (cb hk) 93 := tag_row hr
    have tq' : Tag (w.drewN q) qb 56 := tq
    exact ((((TurnQ.drewN (B := B) (w := w) q).setCell hBk tr (.inr rfl) _).setCell h.hB (tq'.setCell _) (.inl rfl) _).setCell h.hB ((tq'.setCell _).setCell _) (.inl rfl) _)

/-- The oldest chunk, run through, taken out. -/
def dropped (w : World) (q qb hb n nb : Nat) : World := (((popped w q qb hb 509 n).setCell ⟨qb, 0, none⟩ (.pointer (some ⟨nb, 0, none⟩))).setCell ⟨hb, 510, none⟩ (.pointer none)).setCell ⟨qb, 2, none⟩ (.int .i64 0)

theorem Body.drop {w : World} {B qb : Nat} {tv : Nat → Value} {mh nx hk tk : Nat} {cb : Nat → Nat} (h : Body w B qb tv mh nx hk tk cb) (he : mh = 510 * hk + 509) (hlt : hk < tk) (q : Nat) :
    Body (dropped w q qb (cb hk) (nx - mh - 1) (cb (hk + 1))) B qb tv (mh + 1) nx (hk + 1) tk cb ∧ TurnQ B w (dropped w q qb (cb hk) (nx - mh - 1) (cb (hk + 1))) := by
  have hq := h.nq
  have hn1 := h.n1
  have hn2 := h.n2
  have hqh := hq hk (Nat.le_refl _) h.hkt
  obtain ⟨hBk, f, hr, hl, hf⟩ := h.row hk (Nat.le_refl _) h.hkt
  have tq : Tag w qb 56 := ⟨_, _, h.q⟩
  refine ⟨⟨h.hB, by omega, by omega, by omega, by omega, h.n1, h.n2, fun e => by omega, ?_, ?_, fun k l h1 h2 h3 => h.inj k l (by omega) h2 h3⟩, ?_⟩
  · have e0 : ((w.drewN q).setCell ⟨cb hk, 509, none⟩ .nilFunc).heap[qb]? = _ := (blk_setCell_other _ _ _ _ (fun e => hqh e.symm)).trans h.q
    have e1 := heap_setCell_same _ qb 4 _ 56 (.int .i64 (nx - mh - 1 : Nat)) (heap_setCell_same _ qb 2 _ 56 (.int .i64 (509 + 1 : Nat)) e0)
    have e2 := heap_setCell_same _ qb 2 _ 56 (.int .i64 0) ((blk_setCell_other _ ⟨cb hk, 510, none⟩ (.pointer none) _ (fun e => hqh e.symm)).trans (heap_setCell_same _ qb 0 _ 56 (.pointer (some ⟨cb (hk + 1), 0, none⟩)) e1))
    have a1 : mh + 1 - 510 * (hk + 1) = 0 := by omega
    have a2 : nx - (mh + 1) = nx - mh - 1 := by omega
    rw [a1, a2]
    exact e2
  · intro k h1 h2
    obtain ⟨hBk', f', hr2, hl', hf'⟩ := h.row k (by omega) h2
    have hr' : (w.drewN q).rowIs (cb k) 93 511 f' := hr2
    have nk : cb k ≠ cb hk := fun e2 => h.inj hk k (Nat.le_refl _) (by omega) h2 e2.symm
    have nq := hq k (by omega) h2
    exact ⟨hBk', f', ((((((hr'.setOther (a := ⟨cb hk, 509, none⟩) nk _).setOther (a := ⟨qb, 2, none⟩) nq _).setOther (a := ⟨qb, 4, none⟩) nq _).setOther (a := ⟨qb, 0, none⟩) nq _).setOther (a := ⟨cb hk, 510, none⟩) nk _).setOther (a := ⟨qb, 2, none⟩) nq _), hl', fun j hj j1 j2 => hf' j hj (by omega) j2⟩
  · have tr : Tag (w.drewN q) (cb hk) 93 := tag_row hr
    have tq' : Tag (w.drewN q) qb 56 := tq
    exact (((((((TurnQ.drewN (B := B) (w := w) q).setCell hBk tr (.inr rfl) _).setCell h.hB (tq'.setCell _) (.inl rfl) _).setCell h.hB ((tq'.setCell _).setCell _) (.inl rfl) _).setCell h.hB (((tq'.setCell _).setCell _).setCell _) (.inl rfl) _).setCell hBk ((((tr.setCell _).setCell _).setCell _).setCell _) (.inr rfl) _).setCell h.hB (((((tq'.setCell _).setCell _).setCell _).setCell _).setCell _) (.inl rfl) _)

/-- The queue holds the tasks tv mh .. tv (nx-1). -/
def Chunks (w : World) (B qb : Nat) (tv : Nat → Value) (mh nx : Nat) : Prop :=
  (B ≤ qb ∧ mh = 0 ∧ nx = 0 ∧ w.heap[qb]? = some (.cells (qcells none none 0 0 0) 56 (0, 0))) ∨ ∃ hk tk cb, Body w B qb tv mh nx hk tk cb

theorem Chunks.congr {w : World} {B qb : Nat} {tv tv' : Nat → Value} {mh nx : Nat} (h : Chunks w B qb tv mh nx) (he : ∀ k, mh ≤ k → k < nx → tv' k = tv k) : Chunks w B qb tv' mh nx := by
  rcases h with h | ⟨hk, tk, cb, h⟩
  · exact .inl h
  · refine .inr ⟨hk, tk, cb, ⟨h.hB, h.hkt, h.m1, h.m2, h.mn, h.n1, h.n2, h.me, h.q, fun k h1 h2 => ?_, h.inj⟩⟩
    obtain ⟨a, f, b, c, d⟩ := h.row k h1 h2
    exact ⟨a, f, b, c, fun j hj j1 j2 => by rw [d j hj j1 j2, he _ j1 j2]⟩

/-- The queue is as it was where its blocks are. -/
theorem Chunks.keep {w w' : World} {B qb : Nat} {tv : Nat → Value} {mh nx : Nat} (h : Chunks w B qb tv mh nx) (hk : ∀ (i : Nat) (cs : Array Value) (t : TypeId) (fr : Nat × Nat), w.heap[i]? = some (.cells cs t fr) → t = 56 ∨ t = 93 → w'.heap[i]? = some (.cells cs t fr)) : Chunks w' B qb tv mh nx := by
  rcases h with ⟨a, b, c, d⟩ | ⟨hd, tk, cb, h⟩
  · exact .inl ⟨a, b, c, hk _ _ _ _ d (.inl rfl)⟩
  · refine .inr ⟨hd, tk, cb, ⟨h.hB, h.hkt, h.m1, h.m2, h.mn, h.n1, h.n2, h.me, hk _ _ _ _ h.q (.inl rfl), fun k h1 h2 => ?_, h.inj⟩⟩
    obtain ⟨a, f, ⟨c, r1, r2⟩, b⟩ := h.row k h1 h2
    exact ⟨a, f, ⟨c, hk _ _ _ _ r1 (.inr rfl), r2⟩, b⟩

theorem Chunks.le {w : World} {B qb : Nat} {tv : Nat → Value} {mh nx : Nat} (h : Chunks w B qb tv mh nx) : mh ≤ nx := by
  rcases h with ⟨_, a, b, _⟩ | ⟨_, _, _, h⟩
  · omega
  · exact h.mn

theorem Chunks.cells {w : World} {B qb : Nat} {tv : Nat → Value} {mh nx : Nat} (h : Chunks w B qb tv mh nx) : ∃ ph pt a e, w.heap[qb]? = some (.cells (qcells ph pt a e (nx - mh)) 56 (0, 0)) := by
  rcases h with ⟨_, rfl, rfl, h⟩ | ⟨_, _, _, h⟩
  · exact ⟨_, _, _, _, h⟩
  · exact ⟨_, _, _, _, h.q⟩

theorem push_chunks (B qb mh nx : Nat) (tv : Nat → Value) (fn : Fn) (x y : Array Value) (w : World) (h : Chunks w B qb tv mh nx) (hv : tv nx = .func fn x y) (hn : nx ≤ 900000) (hBs : B ≤ w.heap.size) :
    Calls Yba.prog 18 #[.pointer (some ⟨qb, 0, none⟩), .func fn x y] w fun r w' => r = .returned (.tuple #[]) ∧ Chunks w' B qb tv mh (nx + 1) ∧ TurnQ B w w' := by
  rcases h with ⟨hB, rfl, rfl, h⟩ | ⟨hk, tk, cb, h⟩
  · refine (push_first qb fn x y w h).mono ?_
    rintro r w' ⟨rfl, rfl⟩
    obtain ⟨b1, t1⟩ := body_open tv hB h hBs
    obtain ⟨b2, t2⟩ := b1.store (by omega)
    rw [hv] at b2 t2
    exact ⟨rfl, .inr ⟨_, _, _, b2⟩, t1.1.trans t2.1, fun i cs t fr e h1 h2 => t2.2 i cs t fr (t1.2 i cs t fr e h1 h2) h1 h2⟩
  · have hn1 := h.n1
    have hn2 := h.n2
    have hm2 := h.m2
    have hmn := h.mn
    have hkt := h.hkt
    obtain ⟨hBk, f, hr, hl, hf⟩ := h.row tk h.hkt (Nat.le_refl _)
    by_cases e : nx < 510 * tk + 510
    · refine (push_mid qb (cb tk) _ (nx - 510 * tk) (nx - mh) _ (.func fn x y) f fn x y rfl w h.q hr (by omega) (by omega)).mono ?_
      rintro r w' ⟨rfl, rfl⟩
      obtain ⟨b2, t2⟩ := h.store e
      rw [hv] at b2 t2
      exact ⟨rfl, .inr ⟨_, _, _, b2⟩, t2⟩
    · have e5 : nx = 510 * tk + 510 := by omega
      have q5 := h.q
      have e6 : nx - 510 * tk = 510 := by omega
      rw [e6] at q5
      by_cases en : mh = nx
      · subst en
        have ek : hk = tk := by omega
        subst ek
        have e7 : mh - mh = 0 := by omega
        rw [e7] at q5
        refine (push_wrap qb (cb hk) _ fn x y f w q5 hr).mono ?_
        rintro r w' ⟨rfl, rfl⟩
        obtain ⟨b1, t1⟩ := h.wrap e5 hBs
        obtain ⟨b2, t2⟩ := b1.store (by omega)
        have a1 : mh - 510 * (hk + 1) = 0 := by omega
        rw [hv, a1, e7] at b2 t2
        exact ⟨rfl, .inr ⟨_, _, _, b2⟩, t1.1.trans t2.1, fun i cs t fr e h1 h2 => t2.2 i cs t fr (t1.2 i cs t fr e h1 h2) h1 h2⟩
      · refine (push_grow qb (cb tk) _ (nx - mh) _ fn x y f w q5 hr (by omega) (by omega)).mono ?_
        rintro r w' ⟨rfl, rfl⟩
        obtain ⟨b1, t1⟩ := h.grow e5 (by omega) hBs
        obtain ⟨b2, t2⟩ := b1.store (by omega)
        have a1 : nx - 510 * (tk + 1) = 0 := by omega
        rw [hv, a1, if_pos rfl] at b2 t2
        exact ⟨rfl, .inr ⟨_, _, _, b2⟩, t1.1.trans t2.1, fun i cs t fr e h1 h2 => t2.2 i cs t fr (t1.2 i cs t fr e h1 h2) h1 h2⟩

theorem pop_chunks (B qb mh nx : Nat) (tv : Nat → Value) (w : World) (h : Chunks w B qb tv mh nx) (hlt : mh < nx) (hn : nx ≤ 900000) :
    Calls Yba.prog 20 #[.pointer (some ⟨qb, 0, none⟩)] w fun r w' => r = .returned (tv mh) ∧ Chunks w' B qb tv (mh + 1) nx ∧ TurnQ B w w' := by
  rcases h with ⟨hB, rfl, rfl, h⟩ | ⟨hk, tk, cb, h⟩
  · omega
  · have hn1 := h.n1
    have hn2 := h.n2
    have hm1 := h.m1
    have hm2 := h.m2
    have hme := h.me
    have hkt := h.hkt
    have hqh := h.nq hk (Nat.le_refl _) h.hkt
    obtain ⟨hBk, f, hr, hl, hf⟩ := h.row hk (Nat.le_refl _) h.hkt
    have q5 := h.q
    obtain ⟨n, en⟩ : ∃ n, nx - mh = n + 1 := ⟨nx - mh - 1, by omega⟩
    have en' : nx - mh - 1 = n := by omega
    rw [en] at q5
    have hm3 : mh < 510 * hk + 510 := by
      by_cases e : mh = 510 * hk + 510
      · have := hme e; omega
      · omega
    have ev : f (mh - 510 * hk) = tv mh := by
      rw [hf (mh - 510 * hk) (by omega) (by omega) (by omega)]
      congr 1
      omega
    have hc := hr.cell (i := mh - 510 * hk) (by omega)
    rw [ev] at hc
    by_cases e : mh + 1 < 510 * hk + 510
    · refine (pop_mid qb (cb hk) (mh - 510 * hk) (nx - 510 * tk) n _ (tv mh) w q5 hc (hr.frozen _) hqh (by omega) (by omega)).mono ?_
      rintro r w' ⟨rfl, q, rfl⟩
      obtain ⟨b2, t2⟩ := h.pop hlt q (.inl e)
      rw [en'] at b2 t2
      exact ⟨rfl, .inr ⟨_, _, _, b2⟩, t2⟩
    · have e5 : mh - 510 * hk = 509 := by omega
      rw [e5] at q5 hc ev
      by_cases ek : hk = tk
      · subst ek
        refine (pop_end qb (cb hk) (nx - 510 * hk) n (tv mh) w q5 hc (hr.frozen _) hqh (by omega)).mono ?_
        rintro r w' ⟨rfl, q, rfl⟩
        obtain ⟨b2, t2⟩ := h.pop hlt q (.inr rfl)
        rw [en', e5] at b2 t2
        exact ⟨rfl, .inr ⟨_, _, _, b2⟩, t2⟩
      · obtain ⟨hBt, f2, hr2, -⟩ := h.row tk h.hkt (Nat.le_refl _)
        refine (pop_last qb (cb hk) (cb tk) (nx - 510 * tk) n _ (tv mh) f f2 w q5 hr hr2 (h.inj hk tk (Nat.le_refl _) (by omega) (Nat.le_refl _)) ev (hl (by omega)) (by omega)).mono ?_
        rintro r w' ⟨rfl, q, rfl⟩
        obtain ⟨b2, t2⟩ := h.drop (by omega) (by omega) q
        rw [en'] at b2 t2
        exact ⟨rfl, .inr ⟨_, _, _, b2⟩, t2⟩

end Go.Proofs.Ybulkarsc
