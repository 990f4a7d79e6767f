import Derived.Test.YbulkarscCheck
set_option linter.unusedVariables false
namespace Go.Proofs.Ybulkarsc
open Go.RowKit Go.Deep

/-- The two full chunks, and the cell that a task sets. -/
def Ready (gb B : Nat) (w w3 : World) : Prop :=
  ∃ f1 f2 : Nat → Value, w3.rowIs (B + 1) 93 511 f1 ∧ w3.rowIs (B + 1 + 1) 93 511 f2 ∧ (∀ j : Nat, j < 510 → Task w3 B B 28 (f1 j) j ∧ Task w3 B B 29 (f2 j) (510 + j)) ∧
    w3.heap[B]? = some (.cells #[.pointer (some ⟨gb, 0, none⟩)] 68 (0, 0)) ∧ w3.heap[gb]? = some (.cells #[.int .i64 (-1)] 3 (0, 0)) ∧ gb < B ∧ w.heap.size ≤ gb ∧ Below w.heap.size w w3

theorem Ready.of {gb : Nat} {w w2 : World} (hgb : w.heap.size = gb) (h : FInv gb (gb + 1) (w.alloc (.cells #[.int .i64 (-1)] 3)) 510 w2) : Ready gb (gb + 1) w w2 := by
  subst hgb
  obtain ⟨f1, f2, r1, r2, ht, hx, hb⟩ := h
  refine ⟨f1, f2, r1, r2, ht, hx, ?_, by omega, Nat.le_refl _, ((Below.refl _ _).alloc (Nat.le_refl _) _).trans (hb.mono (by omega))⟩
  exact (hb.block _ (by omega)).trans (blk_alloc_new w _)

theorem Ready.alloc {gb B : Nat} {w w3 : World} (h : Ready gb B w w3) (o : Obj) : Ready gb B w (w3.alloc o) := by
  obtain ⟨f1, f2, r1, r2, ht, hx, hg, h1, h2, hb⟩ := h
  have hl : ∀ {ob : Obj} {i : Nat}, w3.heap[i]? = some ob → (w3.alloc o).heap[i]? = some ob := fun {ob i} hi => (blk_alloc_lt _ _ _ (heap_lt hi)).trans hi
  exact ⟨f1, f2, r1.alloc o, r2.alloc o, fun j hj => ⟨(ht j hj).1.same (fun i _ hi => hl hi), (ht j hj).2.same (fun i _ hi => hl hi)⟩, hl hx, hl hg, h1, h2, hb.alloc hb.size o⟩

theorem Ready.lt {gb B : Nat} {w w3 : World} (h : Ready gb B w w3) : B + 1 + 1 < w3.heap.size := by
  obtain ⟨f1, f2, r1, r2, -⟩ := h
  exact r2.lt

/-- A task has been taken: its slot, and no other, is clear. -/
def Taken (gb B want : Nat) (w : World) (v : Value) (w4 : World) : Prop :=
  ∃ (F ib : Nat) (f1 f2 : Nat → Value), (F = 28 ∨ F = 29) ∧ v = clo F ib B ∧ w4.rowIs (B + 1) 93 511 f1 ∧ w4.rowIs (B + 1 + 1) 93 511 f2 ∧ w4.heap[B]? = some (.cells #[.pointer (some ⟨gb, 0, none⟩)] 68 (0, 0)) ∧
    w4.heap[ib]? = some (.cells #[.int .i64 want] 3 (0, 0)) ∧ w4.heap[gb]? = some (.cells #[.int .i64 (-1)] 3 (0, 0)) ∧ gb ≠ ib ∧ (∀ j, j < 510 → NilAt (f1 j) (j = want)) ∧ (∀ j, j < 510 → NilAt (f2 j) (510 + j = want)) ∧ w.heap.size ≤ gb ∧ Below w.heap.size w w4

theorem nil_not {w : World} {B xb F : Nat} {v : Value} {id : Int} {p : Prop} (h : Task w B xb F v id) (hp : ¬ p) : NilAt v p := by
  obtain ⟨ib, rfl, -⟩ := h
  exact .inr ⟨_, _, _, rfl, hp⟩

theorem Ready.take_c {gb B want : Nat} {w w3 : World} (h : Ready gb B w w3) (hw : want < 510) :
    ∃ v, w3.cell? ⟨B + 1, want, none⟩ = some v ∧ w3.frozen? ⟨B + 1, want, none⟩ = false ∧ ∀ q, Taken gb B want w v ((w3.drewN q).setCell ⟨B + 1, want, none⟩ .nilFunc) := by
  obtain ⟨f1, f2, r1, r2, ht, hx, hg, h1, h2, hb⟩ := h
  refine ⟨f1 want, r1.cell (by omega), r1.frozen _, fun q => ?_⟩
  have r1q : (w3.drewN q).rowIs (B + 1) 93 511 f1 := r1
  have r2q : (w3.drewN q).rowIs (B + 1 + 1) 93 511 f2 := r2
  have hblk : ∀ i : Nat, i ≠ B + 1 → ((w3.drewN q).setCell ⟨B + 1, want, none⟩ .nilFunc).heap[i]? = w3.heap[i]? := fun i hi => (blk_setCell_other _ _ _ _ hi)
  obtain ⟨ib, hv, hib, hic⟩ := (ht want hw).1
  refine ⟨28, ib, _, f2, .inl rfl, hv, r1q.set want .nilFunc, r2q.setOther (by simp) _, (hblk _ (by omega)).trans hx, (hblk _ (fun e => by subst e; have := row_tag r1 hic; cases this)).trans hic, (hblk _ (by omega)).trans hg, by omega, fun j hj => ?_, fun j hj => nil_not (ht j hj).2 (by omega), h2, ⟨hb.os, hb.tape, hb.output, by simpa using hb.size, fun i hi => (hblk i (by omega)).trans (hb.block i hi)⟩⟩
  by_cases e : j = want
  · rw [if_pos e]; exact .inl ⟨rfl, e⟩
  · rw [if_neg e]; exact nil_not (ht j hj).1 e

theorem Ready.take_n {gb B want k : Nat} {w w3 : World} (h : Ready gb B w w3) (hk : want = 510 + k) (hw : k < 510) :
    ∃ v, w3.cell? ⟨B + 1 + 1, k, none⟩ = some v ∧ w3.frozen? ⟨B + 1 + 1, k, none⟩ = false ∧ ∀ q, Taken gb B want w v ((w3.drewN q).setCell ⟨B + 1 + 1, k, none⟩ .nilFunc) := by
  obtain ⟨f1, f2, r1, r2, ht, hx, hg, h1, h2, hb⟩ := h
  refine ⟨f2 k, r2.cell (by omega), r2.frozen _, fun q => ?_⟩
  have r1q : (w3.drewN q).rowIs (B + 1) 93 511 f1 := r1
  have r2q : (w3.drewN q).rowIs (B + 1 + 1) 93 511 f2 := r2
  have hblk : ∀ i : Nat, i ≠ B + 1 + 1 → ((w3.drewN q).setCell ⟨B + 1 + 1, k, none⟩ .nilFunc).heap[i]? = w3.heap[i]? := fun i hi => (blk_setCell_other _ _ _ _ hi)
  obtain ⟨ib, hv, hib, hic⟩ := (ht k hw).2
  have hwi : (510 : Int) + k = want := by omega
  rw [hwi] at hic
  refine ⟨29, ib, f1, _, .inr rfl, hv, r1q.setOther (by simp) _, r2q.set k .nilFunc, (hblk _ (by omega)).trans hx, (hblk _ (fun e => by subst e; have := row_tag r2 hic; cases this)).trans hic, (hblk _ (by omega)).trans hg, by omega, fun j hj => nil_not (ht j hj).1 (by omega), fun j hj => ?_, h2, ⟨hb.os, hb.tape, hb.output, by simpa using hb.size, fun i hi => (hblk i (by omega)).trans (hb.block i hi)⟩⟩
  by_cases e : j = k
  · rw [if_pos e]; exact .inl ⟨rfl, by omega⟩
  · rw [if_neg e]; exact nil_not (ht j hj).2 (by omega)

theorem check_taken {gb B want : Nat} {w w4 : World} {v : Value} (h : Taken gb B want w v w4) (hw : want ≤ 1100) :
    Calls Yba.prog 16 #[.pointer (some ⟨B + 1, 0, none⟩), .pointer (some ⟨B + 1 + 1, 0, none⟩), v, .pointer (some ⟨gb, 0, none⟩), .int .i64 want] w4 fun e w' => e = .returned (.bool true) ∧ Below w.heap.size w w' := by
  obtain ⟨F, ib, f1, f2, hF, rfl, r1, r2, hx, hi, hg, hgi, n1, n2, hgb, hb⟩ := h
  have hmono : ∀ {w' : World}, w4.grownBy w' (some gb) → Below w.heap.size w w' := fun {w'} gr => hb.grown gr hb.size (fun k e => by cases e; exact hgb)
  rcases hF with rfl | rfl
  · refine (check_one (B + 1) (B + 1 + 1) ib B gb want _ f1 f2 w4 r1 r2 hx hi hg hgi hw n1 n2).mono ?_
    rintro e w' ⟨rfl, gr⟩
    exact ⟨rfl, hmono gr⟩
  · refine (check_two (B + 1) (B + 1 + 1) ib B gb want _ f1 f2 w4 r1 r2 hx hi hg hgi hw n1 n2).mono ?_
    rintro e w' ⟨rfl, gr⟩
    exact ⟨rfl, hmono gr⟩

end Go.Proofs.Ybulkarsc
