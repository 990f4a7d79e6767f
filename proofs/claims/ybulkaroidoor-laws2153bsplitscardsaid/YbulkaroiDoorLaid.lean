import Derived.Test.YbulkaroiDoorOpen
import Derived.Stop.LaidErr
set_option linter.unusedVariables false
namespace Go.Proofs.YbulkaroiDoor
open Go.ChangeShapes Go.WideShapes Go.ChangeAt Go.RowKit Go.Deep

theorem Ybad.cells62 : Ybad.prog.cellsOf 62 = 3 := by kernel_rfl

def seatLaid : List (String × DataW Unit) := Rows.lawS2153BAgreesRow.laid

theorem three_of {l : List Value} (h : l.length = 3) : ∃ a b c, l = [a, b, c] := by
  match l, h with
  | [a, b, c], _ => exact ⟨a, b, c, rfl⟩

theorem laid_one {W : World} {n : String} {a b : Int} {m : Bool} {r : List (String × DataW Unit)} (h : laidMet Ybad.prog ((n, .agg [.lit (.int .u32 a), .lit (.int .u32 b), .lit (.bool m)]) :: r) W) (g : Nat)
    (hg : Ybad.prog.globalNamed n = some g) (ht : (Ybad.prog.globals[g]?).map (·.type) = some 62) :
    W.cell? ⟨g, 0, none⟩ = some (.int .u32 a) ∧ W.cell? ⟨g, 1, none⟩ = some (.int .u32 b) ∧ W.cell? ⟨g, 2, none⟩ = some (.bool m) := by
  obtain ⟨ps, ⟨g0, t0, cs, f0, p0, q0, hg0, ht0, hv0, hd0, -, -⟩, -, -⟩ := h
  obtain rfl := Option.some.inj (hg.symm.trans hg0)
  obtain rfl := Option.some.inj (ht.symm.trans ht0)
  obtain ⟨y0, y1, y2, k, hx, hl, h0, h1, h2⟩ := trod_struct3 Ybad.underlying62 hd0
  rw [Ybad.cells62] at hl
  obtain ⟨l⟩ := cs
  obtain ⟨c0, c1, c2, rfl⟩ := three_of hl
  · simp only [Prod.mk.injEq, DataW.agg.injEq, List.cons.injEq] at hx
    simp [Ybad.cells22] at h0 h1
    simp [Ybad.cells4] at h2
    obtain ⟨z0, e0, x0, -⟩ := DataW.trod_int Ybad.underlying22 h0
    obtain ⟨z1, e1, x1, -⟩ := DataW.trod_int Ybad.underlying22 h1
    obtain ⟨z2, e2, x2⟩ := DataW.trod_bool Ybad.underlying4 h2
    obtain ⟨⟨k0, k1, k2, -⟩, -⟩ := hx
    rw [x0] at k0
    rw [x1] at k1
    rw [x2] at k2
    simp only [DataW.lit.injEq, Lit.int.injEq, Lit.bool.injEq, true_and] at k0 k1 k2
    subst k0 k1 k2
    simp only [List.cons.injEq, and_true] at e0 e1 e2
    subst e0 e1 e2
    exact ⟨by simpa using World.var?_cell hg0 hv0 0, by simpa using World.var?_cell hg0 hv0 1, by simpa using World.var?_cell hg0 hv0 2⟩

/-- What the condition on the listed variables gives the walks. -/
theorem globals_of_laid {W : World} (h : laidMetH Ybad.prog seatLaid W) : Globals W := by
  rw [MakeChecks.laidMetH_plain _ _ _ (by kernel_rfl)] at h
  unfold seatLaid Rows.lawS2153BAgreesRow at h
  dsimp only at h
  have f2 := laid_one h 2 (by kernel_rfl) (by kernel_rfl)
  replace h := h.tail
  have f19 := laid_one h 19 (by kernel_rfl) (by kernel_rfl)
  replace h := h.tail
  have f20 := laid_one h 20 (by kernel_rfl) (by kernel_rfl)
  replace h := h.tail
  have f3 := laid_one h 3 (by kernel_rfl) (by kernel_rfl)
  replace h := h.tail
  have f6 := laid_one h 6 (by kernel_rfl) (by kernel_rfl)
  replace h := h.tail
  have f9 := laid_one h 9 (by kernel_rfl) (by kernel_rfl)
  replace h := h.tail
  have f8 := laid_one h 8 (by kernel_rfl) (by kernel_rfl)
  replace h := h.tail
  have f0 := laid_one h 0 (by kernel_rfl) (by kernel_rfl)
  replace h := h.tail
  have f14 := laid_one h 14 (by kernel_rfl) (by kernel_rfl)
  replace h := h.tail
  have f1 := laid_one h 1 (by kernel_rfl) (by kernel_rfl)
  replace h := h.tail
  have f13 := laid_one h 13 (by kernel_rfl) (by kernel_rfl)
  replace h := h.tail
  have f12 := laid_one h 12 (by kernel_rfl) (by kernel_rfl)
  replace h := h.tail
  have f11 := laid_one h 11 (by kernel_rfl) (by kernel_rfl)
  replace h := h.tail
  have f10 := laid_one h 10 (by kernel_rfl) (by kernel_rfl)
  replace h := h.tail
  have f7 := laid_one h 7 (by kernel_rfl) (by kernel_rfl)
  replace h := h.tail
  have f16 := laid_one h 16 (by kernel_rfl) (by kernel_rfl)
  replace h := h.tail
  have f17 := laid_one h 17 (by kernel_rfl) (by kernel_rfl)
  replace h := h.tail
  have f5 := laid_one h 5 (by kernel_rfl) (by kernel_rfl)
  replace h := h.tail
  have f22 := laid_one h 22 (by kernel_rfl) (by kernel_rfl)
  replace h := h.tail
  have f18 := laid_one h 18 (by kernel_rfl) (by kernel_rfl)
  replace h := h.tail
  have f4 := laid_one h 4 (by kernel_rfl) (by kernel_rfl)
  replace h := h.tail
  have f21 := laid_one h 21 (by kernel_rfl) (by kernel_rfl)
  replace h := h.tail
  intro g hg hne
  match g, hg, hne with
  | 0, _, _ => exact f0
  | 1, _, _ => exact f1
  | 2, _, _ => exact f2
  | 3, _, _ => exact f3
  | 4, _, _ => exact f4
  | 5, _, _ => exact f5
  | 6, _, _ => exact f6
  | 7, _, _ => exact f7
  | 8, _, _ => exact f8
  | 9, _, _ => exact f9
  | 10, _, _ => exact f10
  | 11, _, _ => exact f11
  | 12, _, _ => exact f12
  | 13, _, _ => exact f13
  | 14, _, _ => exact f14
  | 16, _, _ => exact f16
  | 17, _, _ => exact f17
  | 18, _, _ => exact f18
  | 19, _, _ => exact f19
  | 20, _, _ => exact f20
  | 21, _, _ => exact f21
  | 22, _, _ => exact f22
  | 15, _, h => exact absurd rfl h
  | n + 23, h, _ => omega

/-- The door's own heap meets the condition. -/
theorem door_met (os : Os) (args : Array Value) : laidMetH Ybad.prog seatLaid ((World.doorLaid Ybad.prog 400 os).forCall (fun _ _ => 0) ⟨#[], args, []⟩).memory :=
  laidMetH_of_parts3 (fuel := 8) (laidMet_of_run' 8 (by kernel_rfl) (by kernel_rfl)) (by kernel_rfl) (by kernel_rfl)

end Go.Proofs.YbulkaroiDoor
