import Derived.Test.YbulkaroiDoorMark
import Derived.Test.YbulkaroiDoorEq
set_option linter.unusedVariables false
namespace Go.Proofs.YbulkaroiDoor
open Go.RowKit Go.Deep

/-- The values that a rule's thirteen cells hold, and what they lead to. -/
def RuleAt (w : World) (B b o : Nat) (r : Rule) : Prop :=
  ∃ fp fk afs aarp amu amd agu agd ared, (w.cell? ⟨b, o, none⟩ = some (.string r.name) ∧ w.cell? ⟨b, o + 1, none⟩ = some (.int .u32 r.prec) ∧ w.cell? ⟨b, o + 2, none⟩ = some (.int .u32 r.rg) ∧ w.cell? ⟨b, o + 3, none⟩ = some (.slice fp r.flows.length fk) ∧ w.cell? ⟨b, o + 4, none⟩ = some (.bool r.media) ∧ w.cell? ⟨b, o + 5, none⟩ = some (.pointer afs) ∧ w.cell? ⟨b, o + 6, none⟩ = some (.int .u32 r.qci) ∧ w.cell? ⟨b, o + 7, none⟩ = some (.pointer aarp) ∧ w.cell? ⟨b, o + 8, none⟩ = some (.pointer amu) ∧ w.cell? ⟨b, o + 9, none⟩ = some (.pointer amd) ∧ w.cell? ⟨b, o + 10, none⟩ = some (.pointer agu) ∧ w.cell? ⟨b, o + 11, none⟩ = some (.pointer agd) ∧ w.cell? ⟨b, o + 12, none⟩ = some (.pointer ared)) ∧
    StrsAt w B fp r.flows ∧ OptU w B (.pointer afs) r.fs ∧ OptU w B (.pointer aarp) r.arp ∧ OptU w B (.pointer amu) r.mu ∧ OptU w B (.pointer amd) r.md ∧ OptU w B (.pointer agu) r.gu ∧ OptU w B (.pointer agd) r.gd ∧ OptR w B (.pointer ared) r.red

def RulesAt (w : World) (B b : Nat) (rs : List Rule) : Prop := ∀ i r, rs[i]? = some r → RuleAt w B b (i * 13) r

theorem StrsAt.later {w w' : World} {B B' : Nat} {sp : Option Addr} {ss : List ByteArray} (h : StrsAt w B sp ss) (hb : Below B w w') (hB : B ≤ B') : StrsAt w' B' sp ss := by
  refine ⟨h.1, fun ad e hne => ?_⟩
  obtain ⟨b, o, e1, e2, e3⟩ := h.2 ad e hne
  exact ⟨b, o, e1, by omega, fun j s hj => (hb.cell (p := ⟨b, o + j, none⟩) e2).trans (e3 j s hj)⟩

theorem OptR.later {w w' : World} {B B' : Nat} {v : Value} {o : Option (ByteArray × Bool)} (h : OptR w B v o) (hb : Below B w w') (hB : B ≤ B') : OptR w' B' v o := by
  rcases h with h | ⟨b, u, s, h1, h2, h3, h4, h5⟩
  · exact .inl h
  · exact .inr ⟨b, u, s, h1, h2, (hb.cell (p := ⟨b, 1, none⟩) h5).trans h3, (hb.cell (p := ⟨b, 2, none⟩) h5).trans h4, by omega⟩

theorem RuleAt.later {w w' : World} {B b o : Nat} {r : Rule} (h : RuleAt w w.heap.size b o r) (hb : Below w.heap.size w w') : RuleAt w' w'.heap.size b o r := by
  obtain ⟨fp, fk, afs, aarp, amu, amd, agu, agd, ared, ⟨c0, c1, c2, c3, c4, c5, c6, c7, c8, c9, c10, c11, c12⟩, h1, h2, h3, h4, h5, h6, h7, h8⟩ := h
  exact ⟨fp, fk, afs, aarp, amu, amd, agu, agd, ared, ⟨cell_later hb c0, cell_later hb c1, cell_later hb c2, cell_later hb c3, cell_later hb c4, cell_later hb c5, cell_later hb c6, cell_later hb c7, cell_later hb c8, cell_later hb c9, cell_later hb c10, cell_later hb c11, cell_later hb c12⟩, h1.later hb hb.size, (h2.later hb).mono hb.size, (h3.later hb).mono hb.size, (h4.later hb).mono hb.size, (h5.later hb).mono hb.size, (h6.later hb).mono hb.size, (h7.later hb).mono hb.size, h8.later hb hb.size⟩

theorem RulesAt.later {w w' : World} {b : Nat} {rs : List Rule} (h : RulesAt w w.heap.size b rs) (hb : Below w.heap.size w w') : RulesAt w' w'.heap.size b rs := fun i r hi => (h i r hi).later (B := 0) hb

/-- A row of n AVPs that is being filled: those of ls lie in it. -/
def Fill (w : World) (g n : Nat) (ls : List Avp) : Prop := ∃ cur, w.heap[g]? = some (.cells cur 29 (0, 0)) ∧ cur.size = n * 4 ∧ AvpsAt w g ls

def set4at (w : World) (g o : Nat) (a b c d : Value) : World := (((w.setCell ⟨g, o, none⟩ a).setCell ⟨g, o + 1, none⟩ b).setCell ⟨g, o + 2, none⟩ c).setCell ⟨g, o + 3, none⟩ d

theorem grown_set4at (w : World) (g o : Nat) (a b c d : Value) : w.grownBy (set4at w g o a b c d) (some g) :=
  grown_trans (grown_trans (grown_trans (grown_set _ _ _ _) (grown_set _ _ _ _)) (grown_set _ _ _ _)) (grown_set _ _ _ _)

theorem Fill.later {w w' : World} {g n : Nat} {ls : List Avp} (h : Fill w g n ls) (hb : Below w.heap.size w w') : Fill w' g n ls := by
  obtain ⟨cur, h1, h2, h3⟩ := h
  exact ⟨cur, (hb.block g (heap_lt h1)).trans h1, h2, h3.later hb⟩

theorem Fill.made (w : World) (n g : Nat) (cs : Array Value) (hg : w.heap.size = g) (hc : cs.size = n * 4) : Fill (w.alloc (.cells cs 29)) g n [] := by
  subst hg
  exact ⟨cs, heap_alloc_new w _, hc, fun i a h => by simp at h⟩

/-- The cells that the next AVP goes into. -/
theorem Fill.cells {w : World} {g n k : Nat} {ls : List Avp} (h : Fill w g n ls) (hk : k < n) :
    ∃ a b c d, w.cell? ⟨g, k * 4, none⟩ = some a ∧ w.cell? ⟨g, k * 4 + 1, none⟩ = some b ∧ w.cell? ⟨g, k * 4 + 2, none⟩ = some c ∧ w.cell? ⟨g, k * 4 + 3, none⟩ = some d ∧
      w.frozen? ⟨g, k * 4, none⟩ = false ∧ w.frozen? ⟨g, k * 4 + 1, none⟩ = false ∧ w.frozen? ⟨g, k * 4 + 2, none⟩ = false ∧ w.frozen? ⟨g, k * 4 + 3, none⟩ = false := by
  obtain ⟨cur, h1, h2, h3⟩ := h
  refine ⟨cur[k * 4]'(by omega), cur[k * 4 + 1]'(by omega), cur[k * 4 + 2]'(by omega), cur[k * 4 + 3]'(by omega), ?_⟩
  simp [World.cell?, World.frozen?, h1]

theorem cell_set4at_lt (w : World) (g o t : Nat) (a b c d : Value) (h : t < o) : (set4at w g o a b c d).cell? ⟨g, t, none⟩ = w.cell? ⟨g, t, none⟩ := by
  unfold set4at
  rw [World.cell?_setCell_other _ _ _ _ (by simp), World.cell?_setCell_other _ _ _ _ (by simp), World.cell?_setCell_other _ _ _ _ (by simp), World.cell?_setCell_other _ _ _ _ (by simp)]

theorem Fill.step {w : World} {g n : Nat} {ls : List Avp} {x : Avp} {p : Option Addr} {k : Nat} (h : Fill w g n ls) (hk : ls.length < n) (hp : p = none → k = 0) (hs : SrcOk w p x.d) :
    Fill (set4at w g (ls.length * 4) (.int .u32 x.c) (.int .u8 x.f) (.int .u32 x.v) (.slice p x.d.length k)) g n (ls ++ [x]) := by
  obtain ⟨cur, h1, h2, h3⟩ := h
  have hsrc : ∀ q d, SrcOk w q d → SrcOk (set4at w g (ls.length * 4) (.int .u32 x.c) (.int .u8 x.f) (.int .u32 x.v) (.slice p x.d.length k)) q d := fun q d hq => hq.tag (grown_set4at _ _ _ _ _ _ _) h1 (by decide)
  have e1 := heap_setCell_same w g (ls.length * 4) cur 29 (.int .u32 x.c) h1
  have e2 := heap_setCell_same _ g (ls.length * 4 + 1) _ 29 (.int .u8 x.f) e1
  have e3 := heap_setCell_same _ g (ls.length * 4 + 2) _ 29 (.int .u32 x.v) e2
  have e4 := heap_setCell_same _ g (ls.length * 4 + 3) _ 29 (.slice p x.d.length k) e3
  refine ⟨_, e4, by simp [h2], fun i a hi => ?_⟩
  rcases Nat.lt_or_ge i ls.length with hlt | hge
  · rw [List.getElem?_append_left hlt] at hi
    obtain ⟨q, l, c0, c1, c2, c3, hq, hd⟩ := h3 i a hi
    refine ⟨q, l, ?_, ?_, ?_, ?_, hq, hsrc _ _ hd⟩
    · rw [cell_set4at_lt _ _ _ _ _ _ _ _ (by omega)]; exact c0
    · rw [cell_set4at_lt _ _ _ _ _ _ _ _ (by omega)]; exact c1
    · rw [cell_set4at_lt _ _ _ _ _ _ _ _ (by omega)]; exact c2
    · rw [cell_set4at_lt _ _ _ _ _ _ _ _ (by omega)]; exact c3
  · rw [List.getElem?_append_right hge] at hi
    have hi0 : i = ls.length := by
      have := (List.getElem?_eq_some_iff.1 hi).1
      simp at this; omega
    subst hi0
    simp at hi
    subst hi
    refine ⟨p, k, ?_, ?_, ?_, ?_, hp, hsrc _ _ hs⟩ <;>
    · simp only [World.cell?]
      rw [show (set4at w g (ls.length * 4) (.int .u32 x.c) (.int .u8 x.f) (.int .u32 x.v) (.slice p x.d.length k)).heap[g]? = _ from e4]
      simp [Array.getElem?_setIfInBounds, h2]
      try omega

end Go.Proofs.YbulkaroiDoor
