import Derived.Test.YbulkaroiDoorInst
import Derived.Test.YbulkaroiDoorSrc
import Derived.Deep.DeepCutAuto
import Derived.Laws.CopyOwn
set_option linter.unusedVariables false
namespace Go.Proofs.YbulkaroiDoor
open Go.RowKit Go.Deep

def optB (b : Bool) (x : Int) : Option Int := if b then some x else none
def optS (b : Bool) (u : ByteArray) (s : Bool) : Option (ByteArray × Bool) := if b then some (u, s) else none
/-- The rule that the law builds out of what it is handed. -/
def toRule (s : Src) : Rule := ⟨s.name, s.prec, s.rg, s.flows, s.media, optB s.hfs s.fs, s.qci, optB s.harp s.arp, optB s.hmu s.mu, none, none, optB s.hgd s.gd, optS s.hred s.uri s.su⟩

theorem Ybad.info9' : (Ybad.prog.info? 9).map (fun i => (i.zero, i.size, i.bytes)) = some (some (.string ⟨#[]⟩), 1, 16) := by kernel_rfl
theorem Ybad.size9' : (Ybad.prog.info? 9).map (·.size) = some 1 := by kernel_rfl
theorem Ybad.info59' : (Ybad.prog.info? 59).map (fun i => (i.zero, i.size, i.bytes)) = some (some (.agg #[.string ⟨#[]⟩, .int .u32 0, .int .u32 0, .slice none 0 0, .bool false, .pointer none, .int .u32 0, .pointer none, .pointer none, .pointer none, .pointer none, .pointer none, .pointer none]), 13, 120) := by kernel_rfl

/-- 'make([]string, n)'. -/
theorem make_strs (n : Nat) (hn : n ≤ 10000) (W : World) : (Instr.makeSlice 48 (.int .i64 n) (.int .i64 n)).run Ybad.prog W = .ok (.slice (some ⟨W.heap.size, 0, none⟩) n n) (W.alloc (.cells (madeCells #[.string ⟨#[]⟩] n) 9)) := by
  have := run_make_row' (P := Ybad.prog) 48 9 (.string ⟨#[]⟩) 16 Ybad.underlying48 Ybad.info9' rfl .i64 .i64 n (by omega) (by omega) W
  exact this

/-- 'make([]pccRule, n)'. -/
theorem make_rules (n : Nat) (hn : n ≤ 1000) (W : World) : (Instr.makeSlice 25 (.int .i64 n) (.int .i64 n)).run Ybad.prog W = .ok (.slice (some ⟨W.heap.size, 0, none⟩) n n) (W.alloc (.cells (madeCells #[.string ⟨#[]⟩, .int .u32 0, .int .u32 0, .slice none 0 0, .bool false, .pointer none, .int .u32 0, .pointer none, .pointer none, .pointer none, .pointer none, .pointer none, .pointer none] (n * 13)) 59)) := by
  obtain ⟨i, hi, hxx⟩ := Option.map_eq_some_iff.1 Ybad.info59'
  simp only [Prod.mk.injEq] at hxx
  obtain ⟨hz0, hz1, hz2⟩ := hxx
  have hr := run_make (P := Ybad.prog) W 25 59 i _ Ybad.underlying25 hi hz0 .i64 .i64 n n (by omega) (by omega) (by rw [hz2]; omega) (by omega)
  rw [hz1] at hr
  simpa [Value.cells] using hr

/-- 'copy(flows, x.Flows)' into a row that has just been made as long: the new block holds the strings. -/
theorem copy_strs (fp : Option Addr) (fk : Nat) (ss : List ByteArray) (W : World) (h : StrsAt W W.heap.size fp ss) :
    ∃ w1, (Builtin.copy_ #[48, 48] 3 #[.slice (some ⟨W.heap.size, 0, none⟩) ss.length ss.length, .slice fp ss.length fk]).run Ybad.prog (W.alloc (.cells (madeCells #[.string ⟨#[]⟩] ss.length) 9)) = .ok (.int .i64 ss.length) w1 ∧
      Below W.heap.size W w1 ∧ w1.heap.size = W.heap.size + 1 ∧ StrsAt w1 w1.heap.size (some ⟨W.heap.size, 0, none⟩) ss := by
  have hnew : (W.alloc (.cells (madeCells #[.string ⟨#[]⟩] ss.length) 9)).heap[W.heap.size]? = some (.cells (madeCells #[.string ⟨#[]⟩] ss.length) 9 (0, 0)) := heap_alloc_new W _
  by_cases h0 : ss = []
  · subst h0
    refine ⟨_, run_copy_none _ 48 48 3 9 _ _ _ _ _ _ Ybad.underlying48 Ybad.size9' (by simp), (Below.refl _ _).alloc (Nat.le_refl _) _, by simp, fun e => (by cases e), fun ad e hne => absurd rfl hne⟩
  · cases hfp : fp with
    | none => exact absurd (h.1 hfp) h0
    | some ad =>
      obtain ⟨b, o, rfl, hb, hc⟩ := h.2 ad hfp h0
      have hr := run_copy_row (P := Ybad.prog) (W.alloc (.cells (madeCells #[.string ⟨#[]⟩] ss.length) 9)) 48 48 3 9 W.heap.size 0 ss.length ss.length ⟨b, o, none⟩ ss.length fk _ 9 (ss.map Value.string) Ybad.underlying48 Ybad.size9' hnew (by simp)
        (fun j v hj => by
          simp only [List.getElem?_map, Option.map_eq_some_iff] at hj
          obtain ⟨t, ht, rfl⟩ := hj
          have e1 : (⟨b, o, none⟩ : Addr).add j = ⟨b, o + j, none⟩ := by unfold Addr.add; split <;> simp_all
          rw [e1]
          exact (World.cell?_alloc_lt _ _ _ hb).trans (hc j t ht)) (by simp [size_madeCells]) (by simp [Value.oneCell'])
      have e1 : (List.take 0 (madeCells #[Value.string ⟨#[]⟩] ss.length).toList ++ List.map Value.string ss ++ List.drop (0 + (List.map Value.string ss).length) (madeCells #[Value.string ⟨#[]⟩] ss.length).toList).toArray = (ss.map Value.string).toArray := by
        simp [size_madeCells]
      rw [e1] at hr
      have hh := setRow_heap (W.alloc (.cells (madeCells #[.string ⟨#[]⟩] ss.length) 9)) W.heap.size (madeCells #[.string ⟨#[]⟩] ss.length) (ss.map Value.string).toArray 9 (0, 0) hnew
      refine ⟨(W.alloc (.cells (madeCells #[.string ⟨#[]⟩] ss.length) 9)).setRow W.heap.size (ss.map Value.string).toArray, hr.trans (by simp [goInt]), below_setRow ((Below.refl _ _).alloc (Nat.le_refl _) _) (Nat.le_refl _) _, by simp [World.setRow], fun e => (by cases e), fun ad e hne => ⟨W.heap.size, 0, by cases e; rfl, by simp [World.setRow], fun j t ht => ?_⟩⟩
      simp only [World.cell?]
      rw [hh]
      simp [ht]

/-- The pointer does not lead into block g. -/
def NeP (g : Nat) (a : Option Addr) : Prop := ∀ ad, a = some ad → ad.block ≠ g

theorem NeP.nil (g : Nat) : NeP g none := fun _ h => by cases h
theorem NeP.at_ {g b : Nat} (h : b ≠ g) (o : Nat) : NeP g (some ⟨b, o, none⟩) := fun ad e => by cases e; exact h

theorem OptU.keep {w w' : World} {B g : Nat} {a : Option Addr} {o : Option Int} (h : OptU w B (.pointer a) o) (hn : NeP g a) (hg : w.grownBy w' (some g)) (hB : B ≤ w.heap.size) : OptU w' B (.pointer a) o := by
  rcases h with h | ⟨b, x, h1, h2, h3, h4, h5⟩
  · exact .inl h
  · refine .inr ⟨b, x, h1, h2, ?_, h4, h5⟩
    cases h2
    exact (hg.cell_far ⟨b, 0, none⟩ (Nat.lt_of_lt_of_le h4 hB) (by simp; exact hn _ rfl)).trans h3

theorem OptR.keep {w w' : World} {B g : Nat} {a : Option Addr} {o : Option (ByteArray × Bool)} (h : OptR w B (.pointer a) o) (hn : NeP g a) (hg : w.grownBy w' (some g)) (hB : B ≤ w.heap.size) : OptR w' B (.pointer a) o := by
  rcases h with h | ⟨b, u, s, h1, h2, h3, h4, h5⟩
  · exact .inl h
  · cases h2
    exact .inr ⟨b, u, s, h1, rfl, (hg.cell_far ⟨b, 1, none⟩ (Nat.lt_of_lt_of_le h5 hB) (by simp; exact hn _ rfl)).trans h3, (hg.cell_far ⟨b, 2, none⟩ (Nat.lt_of_lt_of_le h5 hB) (by simp; exact hn _ rfl)).trans h4, h5⟩

theorem StrsAt.keep {w w' : World} {B g : Nat} {a : Option Addr} {ss : List ByteArray} (h : StrsAt w B a ss) (hn : NeP g a) (hg : w.grownBy w' (some g)) (hB : B ≤ w.heap.size) : StrsAt w' B a ss := by
  refine ⟨h.1, fun ad e hne => ?_⟩
  obtain ⟨b, o, e1, e2, e3⟩ := h.2 ad e hne
  subst e1
  exact ⟨b, o, rfl, e2, fun j s hj => (hg.cell_far ⟨b, o + j, none⟩ (Nat.lt_of_lt_of_le e2 hB) (by simp; exact hn _ e)).trans (e3 j s hj)⟩

theorem StrsAt.mono {w : World} {B B' : Nat} {sp : Option Addr} {ss : List ByteArray} (h : StrsAt w B sp ss) (hb : B ≤ B') : StrsAt w B' sp ss := by
  refine ⟨h.1, fun ad e hne => ?_⟩
  obtain ⟨b, o, e1, e2, e3⟩ := h.2 ad e hne
  exact ⟨b, o, e1, by omega, e3⟩

theorem OptR.mono {w : World} {B B' : Nat} {v : Value} {o : Option (ByteArray × Bool)} (h : OptR w B v o) (hb : B ≤ B') : OptR w B' v o := by
  rcases h with h | ⟨b, u, s, h1, h2, h3, h4, h5⟩
  · exact .inl h
  · exact .inr ⟨b, u, s, h1, h2, h3, h4, by omega⟩

/-- A rule's thirteen cells in block g, none of whose pointers leads back into it. -/
def RuleIn (w : World) (g o : Nat) (r : Rule) : Prop :=
  ∃ fp fk afs aarp amu amd agu agd ared, (w.cell? ⟨g, o, none⟩ = some (.string r.name) ∧ w.cell? ⟨g, o + 1, none⟩ = some (.int .u32 r.prec) ∧ w.cell? ⟨g, o + 2, none⟩ = some (.int .u32 r.rg) ∧ w.cell? ⟨g, o + 3, none⟩ = some (.slice fp r.flows.length fk) ∧ w.cell? ⟨g, o + 4, none⟩ = some (.bool r.media) ∧ w.cell? ⟨g, o + 5, none⟩ = some (.pointer afs) ∧ w.cell? ⟨g, o + 6, none⟩ = some (.int .u32 r.qci) ∧ w.cell? ⟨g, o + 7, none⟩ = some (.pointer aarp) ∧ w.cell? ⟨g, o + 8, none⟩ = some (.pointer amu) ∧ w.cell? ⟨g, o + 9, none⟩ = some (.pointer amd) ∧ w.cell? ⟨g, o + 10, none⟩ = some (.pointer agu) ∧ w.cell? ⟨g, o + 11, none⟩ = some (.pointer agd) ∧ w.cell? ⟨g, o + 12, none⟩ = some (.pointer ared)) ∧
    (NeP g fp ∧ NeP g afs ∧ NeP g aarp ∧ NeP g amu ∧ NeP g amd ∧ NeP g agu ∧ NeP g agd ∧ NeP g ared) ∧
    StrsAt w w.heap.size fp r.flows ∧ OptU w w.heap.size (.pointer afs) r.fs ∧ OptU w w.heap.size (.pointer aarp) r.arp ∧ OptU w w.heap.size (.pointer amu) r.mu ∧ OptU w w.heap.size (.pointer amd) r.md ∧ OptU w w.heap.size (.pointer agu) r.gu ∧ OptU w w.heap.size (.pointer agd) r.gd ∧ OptR w w.heap.size (.pointer ared) r.red

theorem RuleIn.at_ {w : World} {g o : Nat} {r : Rule} (h : RuleIn w g o r) : RuleAt w w.heap.size g o r := by
  obtain ⟨fp, fk, afs, aarp, amu, amd, agu, agd, ared, hc, -, hr⟩ := h
  exact ⟨fp, fk, afs, aarp, amu, amd, agu, agd, ared, hc, hr⟩

theorem RuleIn.later {w w' : World} {g o : Nat} {r : Rule} (h : RuleIn w g o r) (hb : Below w.heap.size w w') : RuleIn w' g o r := by
  obtain ⟨fp, fk, afs, aarp, amu, amd, agu, agd, ared, ⟨c0, c1, c2, c3, c4, c5, c6, c7, c8, c9, c10, c11, c12⟩, hn, h1, h2, h3, h4, h5, h6, h7, h8⟩ := h
  exact ⟨fp, fk, afs, aarp, amu, amd, agu, agd, ared, ⟨cell_later hb c0, cell_later hb c1, cell_later hb c2, cell_later hb c3, cell_later hb c4, cell_later hb c5, cell_later hb c6, cell_later hb c7, cell_later hb c8, cell_later hb c9, cell_later hb c10, cell_later hb c11, cell_later hb c12⟩, hn, h1.later hb hb.size, (h2.later hb).mono hb.size, (h3.later hb).mono hb.size, (h4.later hb).mono hb.size, (h5.later hb).mono hb.size, (h6.later hb).mono hb.size, (h7.later hb).mono hb.size, h8.later hb hb.size⟩

/-- A row of n rules that is being filled: those of ls lie in it. -/
def FillR (w : World) (g n : Nat) (ls : List Rule) : Prop := ∃ cur, w.heap[g]? = some (.cells cur 59 (0, 0)) ∧ cur.size = n * 13 ∧ ∀ i r, ls[i]? = some r → RuleIn w g (i * 13) r

def set13at (w : World) (g o : Nat) (v0 v1 v2 v3 v4 v5 v6 v7 v8 v9 v10 v11 v12 : Value) : World := ((((((((((((((((((((((((((w).setCell ⟨g, o, none⟩ v0)).setCell ⟨g, o + 1, none⟩ v1)).setCell ⟨g, o + 2, none⟩ v2)).setCell ⟨g, o + 3, none⟩ v3)).setCell ⟨g, o + 4, none⟩ v4)).setCell ⟨g, o + 5, none⟩ v5)).setCell ⟨g, o + 6, none⟩ v6)).setCell ⟨g, o + 7, none⟩ v7)).setCell ⟨g, o + 8, none⟩ v8)).setCell ⟨g, o + 9, none⟩ v9)).setCell ⟨g, o + 10, none⟩ v10)).setCell ⟨g, o + 11, none⟩ v11)).setCell ⟨g, o + 12, none⟩ v12)

theorem grown_set13at (w : World) (g o : Nat) (v0 v1 v2 v3 v4 v5 v6 v7 v8 v9 v10 v11 v12 : Value) : w.grownBy (set13at w g o v0 v1 v2 v3 v4 v5 v6 v7 v8 v9 v10 v11 v12) (some g) :=
  grown_trans (grown_trans (grown_trans (grown_trans (grown_trans (grown_trans (grown_trans (grown_trans (grown_trans (grown_trans (grown_trans (grown_trans (grown_set _ _ _ _) (grown_set _ _ _ _)) (grown_set _ _ _ _)) (grown_set _ _ _ _)) (grown_set _ _ _ _)) (grown_set _ _ _ _)) (grown_set _ _ _ _)) (grown_set _ _ _ _)) (grown_set _ _ _ _)) (grown_set _ _ _ _)) (grown_set _ _ _ _)) (grown_set _ _ _ _)) (grown_set _ _ _ _)

theorem FillR.later {w w' : World} {g n : Nat} {ls : List Rule} (h : FillR w g n ls) (hb : Below w.heap.size w w') : FillR w' g n ls := by
  obtain ⟨cur, h1, h2, h3⟩ := h
  exact ⟨cur, (hb.block g (heap_lt h1)).trans h1, h2, fun i r hi => (h3 i r hi).later hb⟩

theorem FillR.made (w : World) (n : Nat) (cs : Array Value) (hc : cs.size = n * 13) : FillR (w.alloc (.cells cs 59)) w.heap.size n [] :=
  ⟨cs, heap_alloc_new w _, hc, fun i a h => by simp at h⟩

theorem FillR.cells {w : World} {g n k : Nat} {ls : List Rule} (h : FillR w g n ls) (hk : k < n) :
    ∃ a0 a1 a2 a3 a4 a5 a6 a7 a8 a9 a10 a11 a12, w.cell? ⟨g, k * 13, none⟩ = some a0 ∧ w.cell? ⟨g, k * 13 + 1, none⟩ = some a1 ∧ w.cell? ⟨g, k * 13 + 2, none⟩ = some a2 ∧ w.cell? ⟨g, k * 13 + 3, none⟩ = some a3 ∧ w.cell? ⟨g, k * 13 + 4, none⟩ = some a4 ∧ w.cell? ⟨g, k * 13 + 5, none⟩ = some a5 ∧ w.cell? ⟨g, k * 13 + 6, none⟩ = some a6 ∧ w.cell? ⟨g, k * 13 + 7, none⟩ = some a7 ∧ w.cell? ⟨g, k * 13 + 8, none⟩ = some a8 ∧ w.cell? ⟨g, k * 13 + 9, none⟩ = some a9 ∧ w.cell? ⟨g, k * 13 + 10, none⟩ = some a10 ∧ w.cell? ⟨g, k * 13 + 11, none⟩ = some a11 ∧ w.cell? ⟨g, k * 13 + 12, none⟩ = some a12 ∧
      w.frozen? ⟨g, k * 13, none⟩ = false ∧ w.frozen? ⟨g, k * 13 + 1, none⟩ = false ∧ w.frozen? ⟨g, k * 13 + 2, none⟩ = false ∧ w.frozen? ⟨g, k * 13 + 3, none⟩ = false ∧ w.frozen? ⟨g, k * 13 + 4, none⟩ = false ∧ w.frozen? ⟨g, k * 13 + 5, none⟩ = false ∧ w.frozen? ⟨g, k * 13 + 6, none⟩ = false ∧ w.frozen? ⟨g, k * 13 + 7, none⟩ = false ∧ w.frozen? ⟨g, k * 13 + 8, none⟩ = false ∧ w.frozen? ⟨g, k * 13 + 9, none⟩ = false ∧ w.frozen? ⟨g, k * 13 + 10, none⟩ = false ∧ w.frozen? ⟨g, k * 13 + 11, none⟩ = false ∧ w.frozen? ⟨g, k * 13 + 12, none⟩ = false := by
  obtain ⟨cur, h1, h2, h3⟩ := h
  refine ⟨cur[k * 13]'(by omega), cur[k * 13 + 1]'(by omega), cur[k * 13 + 2]'(by omega), cur[k * 13 + 3]'(by omega), cur[k * 13 + 4]'(by omega), cur[k * 13 + 5]'(by omega), cur[k * 13 + 6]'(by omega), cur[k * 13 + 7]'(by omega), cur[k * 13 + 8]'(by omega), cur[k * 13 + 9]'(by omega), cur[k * 13 + 10]'(by omega), cur[k * 13 + 11]'(by omega), cur[k * 13 + 12]'(by omega), ?_⟩
  simp [World.cell?, World.frozen?, h1]

theorem cell_set13at_lt (w : World) (g o t : Nat) (v0 v1 v2 v3 v4 v5 v6 v7 v8 v9 v10 v11 v12 : Value) (h : t < o) : (set13at w g o v0 v1 v2 v3 v4 v5 v6 v7 v8 v9 v10 v11 v12).cell? ⟨g, t, none⟩ = w.cell? ⟨g, t, none⟩ := by
  unfold set13at
  rw [World.cell?_setCell_other _ _ _ _ (by simp), World.cell?_setCell_other _ _ _ _ (by simp), World.cell?_setCell_other _ _ _ _ (by simp), World.cell?_setCell_other _ _ _ _ (by simp), World.cell?_setCell_other _ _ _ _ (by simp), World.cell?_setCell_other _ _ _ _ (by simp), World.cell?_setCell_other _ _ _ _ (by simp), World.cell?_setCell_other _ _ _ _ (by simp), World.cell?_setCell_other _ _ _ _ (by simp), World.cell?_setCell_other _ _ _ _ (by simp), World.cell?_setCell_other _ _ _ _ (by simp), World.cell?_setCell_other _ _ _ _ (by simp), World.cell?_setCell_other _ _ _ _ (by simp)]

theorem FillR.step {w : World} {g n : Nat} {ls : List Rule} {r : Rule} {fp : Option Addr} {fk : Nat} {afs aarp amu amd agu agd ared : Option Addr} (h : FillR w g n ls) (hk : ls.length < n)
    (hn : NeP g fp ∧ NeP g afs ∧ NeP g aarp ∧ NeP g amu ∧ NeP g amd ∧ NeP g agu ∧ NeP g agd ∧ NeP g ared)
    (h1 : StrsAt w w.heap.size fp r.flows) (h2 : OptU w w.heap.size (.pointer afs) r.fs) (h3 : OptU w w.heap.size (.pointer aarp) r.arp) (h4 : OptU w w.heap.size (.pointer amu) r.mu) (h5 : OptU w w.heap.size (.pointer amd) r.md) (h6 : OptU w w.heap.size (.pointer agu) r.gu) (h7 : OptU w w.heap.size (.pointer agd) r.gd) (h8 : OptR w w.heap.size (.pointer ared) r.red) :
    FillR (set13at w g (ls.length * 13) (.string r.name) (.int .u32 r.prec) (.int .u32 r.rg) (.slice fp r.flows.length fk) (.bool r.media) (.pointer afs) (.int .u32 r.qci) (.pointer aarp) (.pointer amu) (.pointer amd) (.pointer agu) (.pointer agd) (.pointer ared)) g n (ls ++ [r]) := by
  obtain ⟨cur, b1, b2, b3⟩ := h
  have hgr := grown_set13at w g (ls.length * 13) (.string r.name) (.int .u32 r.prec) (.int .u32 r.rg) (.slice fp r.flows.length fk) (.bool r.media) (.pointer afs) (.int .u32 r.qci) (.pointer aarp) (.pointer amu) (.pointer amd) (.pointer agu) (.pointer agd) (.pointer ared)
  have e0 := heap_setCell_same _ g (ls.length * 13) _ 59 (.string r.name) b1
  have e1 := heap_setCell_same _ g (ls.length * 13 + 1) _ 59 (.int .u32 r.prec) e0
  have e2 := heap_setCell_same _ g (ls.length * 13 + 2) _ 59 (.int .u32 r.rg) e1
  have e3 := heap_setCell_same _ g (ls.length * 13 + 3) _ 59 (.slice fp r.flows.length fk) e2
  have e4 := heap_setCell_same _ g (ls.length * 13 + 4) _ 59 (.bool r.media) e3
  have e5 := heap_setCell_same _ g (ls.length * 13 + 5) _ 59 (.pointer afs) e4
  have e6 := heap_setCell_same _ g (ls.length * 13 + 6) _ 59 (.int .u32 r.qci) e5
  have e7 := heap_setCell_same _ g (ls.length * 13 + 7) _ 59 (.pointer aarp) e6
  have e8 := heap_setCell_same _ g (ls.length * 13 + 8) _ 59 (.pointer amu) e7
  have e9 := heap_setCell_same _ g (ls.length * 13 + 9) _ 59 (.pointer amd) e8
  have e10 := heap_setCell_same _ g (ls.length * 13 + 10) _ 59 (.pointer agu) e9
  have e11 := heap_setCell_same _ g (ls.length * 13 + 11) _ 59 (.pointer agd) e10
  have e12 := heap_setCell_same _ g (ls.length * 13 + 12) _ 59 (.pointer ared) e11
  have hle := Nat.le_refl w.heap.size
  have hsz := hgr.size
  have hlift : ∀ (r : Rule) (o : Nat) (fp : Option Addr) (fk : Nat) (afs aarp amu amd agu agd ared : Option Addr), (NeP g fp ∧ NeP g afs ∧ NeP g aarp ∧ NeP g amu ∧ NeP g amd ∧ NeP g agu ∧ NeP g agd ∧ NeP g ared) →
      (StrsAt w w.heap.size fp r.flows ∧ OptU w w.heap.size (.pointer afs) r.fs ∧ OptU w w.heap.size (.pointer aarp) r.arp ∧ OptU w w.heap.size (.pointer amu) r.mu ∧ OptU w w.heap.size (.pointer amd) r.md ∧ OptU w w.heap.size (.pointer agu) r.gu ∧ OptU w w.heap.size (.pointer agd) r.gd ∧ OptR w w.heap.size (.pointer ared) r.red) →
      ∀ w', w.grownBy w' (some g) → (StrsAt w' w'.heap.size fp r.flows ∧ OptU w' w'.heap.size (.pointer afs) r.fs ∧ OptU w' w'.heap.size (.pointer aarp) r.arp ∧ OptU w' w'.heap.size (.pointer amu) r.mu ∧ OptU w' w'.heap.size (.pointer amd) r.md ∧ OptU w' w'.heap.size (.pointer agu) r.gu ∧ OptU w' w'.heap.size (.pointer agd) r.gd ∧ OptR w' w'.heap.size (.pointer ared) r.red) := by
    rintro r o fp fk afs aarp amu amd agu agd ared ⟨n0, n1, n2, n3, n4, n5, n6, n7⟩ ⟨k0, k1, k2, k3, k4, k5, k6, k7⟩ w' hg
    exact ⟨(k0.keep n0 hg hle).mono hg.size, (k1.keep n1 hg hle).mono hg.size, (k2.keep n2 hg hle).mono hg.size, (k3.keep n3 hg hle).mono hg.size, (k4.keep n4 hg hle).mono hg.size, (k5.keep n5 hg hle).mono hg.size, (k6.keep n6 hg hle).mono hg.size, (k7.keep n7 hg hle).mono hg.size⟩
  refine ⟨_, e12, by simp [b2], fun i a hi => ?_⟩
  rcases Nat.lt_or_ge i ls.length with hlt | hge
  · rw [List.getElem?_append_left hlt] at hi
    obtain ⟨fp', fk', p1, p2, p3, p4, p5, p6, p7, ⟨c0, c1, c2, c3, c4, c5, c6, c7, c8, c9, c10, c11, c12⟩, hne, hp⟩ := b3 i a hi
    refine ⟨fp', fk', p1, p2, p3, p4, p5, p6, p7, ⟨?_, ?_, ?_, ?_, ?_, ?_, ?_, ?_, ?_, ?_, ?_, ?_, ?_⟩, hne, hlift _ 0 _ fk' _ _ _ _ _ _ _ hne hp _ hgr⟩
    · rw [cell_set13at_lt _ _ _ _ _ _ _ _ _ _ _ _ _ _ _ _ _ (by omega)]; exact c0
    · rw [cell_set13at_lt _ _ _ _ _ _ _ _ _ _ _ _ _ _ _ _ _ (by omega)]; exact c1
    · rw [cell_set13at_lt _ _ _ _ _ _ _ _ _ _ _ _ _ _ _ _ _ (by omega)]; exact c2
    · rw [cell_set13at_lt _ _ _ _ _ _ _ _ _ _ _ _ _ _ _ _ _ (by omega)]; exact c3
    · rw [cell_set13at_lt _ _ _ _ _ _ _ _ _ _ _ _ _ _ _ _ _ (by omega)]; exact c4
    · rw [cell_set13at_lt _ _ _ _ _ _ _ _ _ _ _ _ _ _ _ _ _ (by omega)]; exact c5
    · rw [cell_set13at_lt _ _ _ _ _ _ _ _ _ _ _ _ _ _ _ _ _ (by omega)]; exact c6
    · rw [cell_set13at_lt _ _ _ _ _ _ _ _ _ _ _ _ _ _ _ _ _ (by omega)]; exact c7
    · rw [cell_set13at_lt _ _ _ _ _ _ _ _ _ _ _ _ _ _ _ _ _ (by omega)]; exact c8
    · rw [cell_set13at_lt _ _ _ _ _ _ _ _ _ _ _ _ _ _ _ _ _ (by omega)]; exact c9
    · rw [cell_set13at_lt _ _ _ _ _ _ _ _ _ _ _ _ _ _ _ _ _ (by omega)]; exact c10
    · rw [cell_set13at_lt _ _ _ _ _ _ _ _ _ _ _ _ _ _ _ _ _ (by omega)]; exact c11
    · rw [cell_set13at_lt _ _ _ _ _ _ _ _ _ _ _ _ _ _ _ _ _ (by omega)]; exact c12
  · rw [List.getElem?_append_right hge] at hi
    have hi0 : i = ls.length := by
      have := (List.getElem?_eq_some_iff.1 hi).1
      simp at this; omega
    subst hi0
    simp at hi
    subst hi
    refine ⟨fp, fk, afs, aarp, amu, amd, agu, agd, ared, ⟨?_, ?_, ?_, ?_, ?_, ?_, ?_, ?_, ?_, ?_, ?_, ?_, ?_⟩, hn, hlift _ 0 _ fk _ _ _ _ _ _ _ hn ⟨h1, h2, h3, h4, h5, h6, h7, h8⟩ _ hgr⟩ <;>
    · simp only [World.cell?]
      rw [show (set13at w g (ls.length * 13) (.string r.name) (.int .u32 r.prec) (.int .u32 r.rg) (.slice fp r.flows.length fk) (.bool r.media) (.pointer afs) (.int .u32 r.qci) (.pointer aarp) (.pointer amu) (.pointer amd) (.pointer agu) (.pointer agd) (.pointer ared)).heap[g]? = _ from e12]
      simp [Array.getElem?_setIfInBounds, b2]
      try omega


end Go.Proofs.YbulkaroiDoor
