import Derived.Test.YbulkarscRows
import Derived.WalkKit
import Derived.WalkSpells
import Derived.WalkLawsBesides
import Derived.Deep.OwnRows
import Derived.Deep.QuietTactic
import Derived.Deep.RegionHeld3
import Derived.Deep.DeepCutAuto
import Derived.Deep.Light
import Derived.BigQuiet
import Derived.Below
import Derived.Laws.EntriesVeiled
set_option linter.unusedVariables false
namespace Go.Proofs.Ybulkarsc
open Go.RowKit Go.Deep

theorem Yba.zero93 : Yba.zeroCells93 = (List.replicate 510 Value.nilFunc ++ [Value.pointer none]).toArray := by kernel_rfl

theorem heap_lt {w : World} {i : Nat} {o : Obj} (h : w.heap[i]? = some o) : i < w.heap.size := (Array.getElem?_eq_some_iff.1 h).1

/-- A task that sets 'got' to what its own cell holds. -/
def clo (F ib xb : Nat) : Value := .func (Fn.func F) #[] #[.pointer (some ⟨ib, 0, none⟩), .pointer (some ⟨xb, 0, none⟩)]
def Task (w : World) (B xb F : Nat) (v : Value) (id : Int) : Prop := ∃ ib, v = clo F ib xb ∧ B ≤ ib ∧ w.heap[ib]? = some (.cells #[.int .i64 id] 3 (0, 0))

theorem Task.same {w w' : World} {B xb F : Nat} {v : Value} {id : Int} (h : Task w B xb F v id) (hk : ∀ i : Nat, B ≤ i → w.heap[i]? = some (.cells #[.int .i64 id] 3 (0, 0)) → w'.heap[i]? = some (.cells #[.int .i64 id] 3 (0, 0))) : Task w' B xb F v id := by
  obtain ⟨ib, h1, h2, h3⟩ := h
  exact ⟨ib, h1, h2, hk ib h2 h3⟩

theorem rep_get (n i : Nat) (a b : Value) (h : i < n + 1) : (List.replicate n a ++ [b]).toArray[i]? = some (if i < n then a else b) := by
  simp only [List.getElem?_toArray]
  by_cases h2 : i < n
  · rw [List.getElem?_append_left (by simpa using h2), List.getElem?_replicate, if_pos h2, if_pos h2]
  · have h3 : i = n := by omega
    subst h3
    rw [List.getElem?_append_right (by simp), if_neg h2]
    simp
theorem rep_size (n : Nat) (a b : Value) : (List.replicate n a ++ [b]).toArray.size = n + 1 := by simp

def zf : Nat → Value := fun i => if i < 510 then .nilFunc else .pointer none
theorem zero_row (w : World) (b : Nat) (hb : w.heap.size = b) : (w.alloc (.cells Yba.zeroCells93 93)).rowIs b 93 511 zf := by
  subst hb
  refine ⟨Yba.zeroCells93, blk_alloc_new _ _, ?_, fun i hi => ?_⟩
  · rw [Yba.zero93]; exact rep_size 510 _ _
  · rw [Yba.zero93]; exact rep_get 510 i _ _ hi

/-- The two chunks, k slots of each filled. -/
def FInv (gb B : Nat) (w : World) (k : Nat) (wr : World) : Prop :=
  ∃ f1 f2 : Nat → Value, wr.rowIs (B + 1) 93 511 f1 ∧ wr.rowIs (B + 1 + 1) 93 511 f2 ∧ (∀ j : Nat, j < k → Task wr B B 28 (f1 j) j ∧ Task wr B B 29 (f2 j) (510 + j)) ∧
    wr.heap[B]? = some (.cells #[.pointer (some ⟨gb, 0, none⟩)] 68 (0, 0)) ∧ Below B w wr

theorem row_tag {w : World} {b n : Nat} {t : TypeId} {f : Nat → Value} (h : w.rowIs b t n f) {cs : Array Value} {t2 : TypeId} {fr : Nat × Nat} (e : w.heap[b]? = some (.cells cs t2 fr)) : t = t2 := by
  obtain ⟨c, hb, -⟩ := h
  rw [hb] at e
  simp only [Option.some.injEq, Obj.cells.injEq] at e
  exact e.2.1

theorem FInv.step {gb B k : Nat} {w wr : World} (h : FInv gb B w k wr) (hBr : B + 1 + 1 < wr.heap.size) :
    FInv gb B w (k + 1) ((((wr.setCell ⟨B + 1, k, none⟩ (clo 28 wr.heap.size B)).setCell ⟨B + 1 + 1, k, none⟩ (clo 29 (wr.heap.size + 1) B)).alloc (.cells #[.int .i64 k] 3)).alloc (.cells #[.int .i64 (510 + k)] 3)) := by
  obtain ⟨f1, f2, r1, r2, ht, hx, hb⟩ := h
  have s1 := r1.set k (clo 28 wr.heap.size B)
  have s2 := s1.setOther (a := ⟨B + 1 + 1, k, none⟩) (by simp) (clo 29 (wr.heap.size + 1) B)
  have t1 := r2.setOther (a := ⟨B + 1, k, none⟩) (by simp) (clo 28 wr.heap.size B)
  have t2 := t1.set k (clo 29 (wr.heap.size + 1) B)
  have hz : ((wr.setCell ⟨B + 1, k, none⟩ (clo 28 wr.heap.size B)).setCell ⟨B + 1 + 1, k, none⟩ (clo 29 (wr.heap.size + 1) B)).heap.size = wr.heap.size := by simp
  have hblk : ∀ i : Nat, i ≠ B + 1 → i ≠ B + 1 + 1 → ((wr.setCell ⟨B + 1, k, none⟩ (clo 28 wr.heap.size B)).setCell ⟨B + 1 + 1, k, none⟩ (clo 29 (wr.heap.size + 1) B)).heap[i]? = wr.heap[i]? := fun i h1 h2 => (blk_setCell_other _ _ _ _ h2).trans (blk_setCell_other _ _ _ _ h1)
  have hBe : Below B w ((wr.setCell ⟨B + 1, k, none⟩ (clo 28 wr.heap.size B)).setCell ⟨B + 1 + 1, k, none⟩ (clo 29 (wr.heap.size + 1) B)) :=
    ⟨hb.os, hb.tape, hb.output, by rw [hz]; exact hb.size, fun i hi => (hblk i (by omega) (by omega)).trans (hb.block i hi)⟩
  have hkeep : ∀ (id : Int) (i : Nat), wr.heap[i]? = some (.cells #[.int .i64 id] 3 (0, 0)) → ((wr.setCell ⟨B + 1, k, none⟩ (clo 28 wr.heap.size B)).setCell ⟨B + 1 + 1, k, none⟩ (clo 29 (wr.heap.size + 1) B)).heap[i]? = some (.cells #[.int .i64 id] 3 (0, 0)) := by
    intro id i hi
    rw [hblk i (fun e => by subst e; have := row_tag r1 hi; cases this) (fun e => by subst e; have := row_tag r2 hi; cases this)]
    exact hi
  have hxx := (hblk B (by omega) (by omega)).trans hx
  generalize ((wr.setCell ⟨B + 1, k, none⟩ (clo 28 wr.heap.size B)).setCell ⟨B + 1 + 1, k, none⟩ (clo 29 (wr.heap.size + 1) B)) = wa at *
  have hl1 : ∀ {o : Obj} {i : Nat}, wa.heap[i]? = some o → ((wa.alloc (.cells #[.int .i64 k] 3)).alloc (.cells #[.int .i64 (510 + k)] 3)).heap[i]? = some o := fun {o i} hi => (blk_alloc_lt _ _ _ (by have := heap_lt hi; simp; omega)).trans ((blk_alloc_lt _ _ _ (heap_lt hi)).trans hi)
  refine ⟨_, _, (s2.alloc _).alloc _, (t2.alloc _).alloc _, fun j hj => ?_, hl1 hxx, (hBe.alloc (by omega) _).alloc (by simp; omega) _⟩
  by_cases e : j = k
  · subst e
    simp only [if_true]
    refine ⟨⟨wr.heap.size, rfl, by omega, ?_⟩, ⟨wr.heap.size + 1, rfl, by omega, ?_⟩⟩
    · rw [blk_alloc_lt _ _ _ (by simp; omega)]
      have := blk_alloc_new wa (.cells #[.int .i64 j] 3)
      rw [hz] at this
      exact this
    · have := blk_alloc_new (wa.alloc (.cells #[.int .i64 j] 3)) (.cells #[.int .i64 (510 + j)] 3)
      rw [World.size_alloc, hz] at this
      exact this
  · rw [if_neg e, if_neg e]
    obtain ⟨q1, q2⟩ := ht j (by omega)
    exact ⟨q1.same (fun i _ hi => hl1 (hkeep _ i hi)), q2.same (fun i _ hi => hl1 (hkeep _ i hi))⟩

/-- What the filler leaves: two full chunks, the second behind the first. -/
def Filled (gb : Nat) (w : World) (e : Ending) (w' : World) : Prop :=
  e = .returned (.tuple #[.pointer (some ⟨w.heap.size + 1, 0, none⟩), .pointer (some ⟨w.heap.size + 1 + 1, 0, none⟩)]) ∧ FInv gb w.heap.size w 510 w'

def FLoop (gb : Nat) (w : World) (i : Value) (wr : World) : Prop := ∃ k : Nat, k ≤ 510 ∧ i = .int .i64 k ∧ FInv gb w.heap.size w k wr

set_option maxRecDepth 100000 in
set_option maxHeartbeats 2000000 in
theorem fill_calls (gb : Nat) (w : World) :
    Calls Yba.prog 13 #[.pointer (some ⟨gb, 0, none⟩)] w fun e w' => Filled gb w e w' := by
  have HI : Hid (FLoop gb w (.int .i64 0) (((w.alloc (Obj.cells #[Value.pointer (some { block := gb, off := 0 })] 68)).alloc (Obj.cells Yba.zeroCells93 93)).alloc (Obj.cells Yba.zeroCells93 93))) := by
    refine ⟨0, by omega, rfl, zf, zf, ?_, ?_, fun j hj => by omega, ?_, (((Below.refl _ _).alloc (Nat.le_refl _) _).alloc (by simp) _).alloc (by simp; omega) _⟩
    · exact (zero_row _ _ (by simp)).alloc _
    · exact zero_row _ _ (by simp)
    · rw [blk_alloc_lt _ _ _ (by simp; omega), blk_alloc_lt _ _ _ (by simp)]
      exact blk_alloc_new _ _
  go_enter Yba.func13, Yba.ntmps13
  go_wp2_with fail
  generalize hw1 : (((w.alloc (Obj.cells #[Value.pointer (some { block := gb, off := 0 })] 68)).alloc (Obj.cells Yba.zeroCells93 93)).alloc (Obj.cells Yba.zeroCells93 93)) = w1 at *
  clear hw1
  go_loopw [6] (fun i wr => FLoop gb w i wr) (fun i _ => 510 - (intOf i).toNat)
  case atStart => exact HI.out
  case round =>
    obtain ⟨k, hk, rfl, hF⟩ := hrel
    have HF : Hid (FInv gb w.heap.size w k wr) := hF
    obtain ⟨f1, f2, r1, r2, -⟩ := hF
    by_cases hlt : k < 510
    · have hkI : (k : Int) < 510 := by omega
      have c1 := r1.cell (i := k) (by omega)
      have c2 := r2.cell (i := k) (by omega)
      have z1 := r1.frozen k
      have z2 := r2.frozen k
      have l1 := r1.lt
      have l2 := r2.lt
      clear r1 r2
      go_wp2_with fail
      go_roundw
      case rel => exact ⟨k + 1, by omega, by go_num, HF.out.step l2⟩
      case measure => simp [intOf]; omega
    · have hk' : k = 510 := by omega
      subst hk'
      have c1 := r1.cell (i := 510) (by omega)
      have z1 := r1.frozen 510
      have l1 := r1.lt
      have s1 := r1.set 510 (.pointer (some ⟨w.heap.size + 1 + 1, 0, none⟩))
      have s2 := r2.setOther (a := ⟨w.heap.size + 1, 510, none⟩) (by simp) (.pointer (some ⟨w.heap.size + 1 + 1, 0, none⟩))
      go_wp2_with fail
      refine bodyPost_ret (v := .tuple #[.pointer (some ⟨w.heap.size + 1, 0, none⟩), .pointer (some ⟨w.heap.size + 1 + 1, 0, none⟩)]) (by simp [results, Yba.results13, go_sem]) rfl ?_
      obtain ⟨g1, g2, q1, q2, ht, hx, hb⟩ := HF.out
      have hblk : ∀ i : Nat, i ≠ w.heap.size + 1 → (wr.setCell ⟨w.heap.size + 1, 510, none⟩ (.pointer (some ⟨w.heap.size + 1 + 1, 0, none⟩))).heap[i]? = wr.heap[i]? := fun i h1 => blk_setCell_other _ _ _ _ h1
      refine ⟨rfl, _, _, q1.set 510 _, q2.setOther (by simp) _, fun j hj => ?_, (hblk _ (by omega)).trans hx, ⟨hb.os, hb.tape, hb.output, by simpa using hb.size, fun i hi => (hblk i (by omega)).trans (hb.block i hi)⟩⟩
      obtain ⟨a1, a2⟩ := ht j hj
      have hk : ∀ (id : Int) (i : Nat), wr.heap[i]? = some (.cells #[.int .i64 id] 3 (0, 0)) → (wr.setCell ⟨w.heap.size + 1, 510, none⟩ (.pointer (some ⟨w.heap.size + 1 + 1, 0, none⟩))).heap[i]? = some (.cells #[.int .i64 id] 3 (0, 0)) := fun id i hi => (hblk i (fun e => by subst e; have := row_tag q1 hi; cases this)).trans hi
      rw [if_neg (by omega)]
      exact ⟨a1.same (fun i _ hi => hk _ i hi), a2.same (fun i _ hi => hk _ i hi)⟩

end Go.Proofs.Ybulkarsc
