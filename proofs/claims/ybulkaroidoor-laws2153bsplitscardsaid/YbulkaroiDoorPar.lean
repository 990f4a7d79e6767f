import Derived.Test.YbulkaroiDoorLst
import Derived.Lib.EndianBits
set_option linter.unusedVariables false
namespace Go.Proofs.YbulkaroiDoor
open Go.RowKit Go.Deep

theorem or_swap (x y : Int) : bits .or .u32 x y = bits .or .u32 y x := by
  unfold bits
  simp [BitVec.or_comm]

theorem or24 (v : Int) (hv0 : 0 ≤ v) (hv1 : v < 16777216) : bits .or .u32 (bits .or .u32 (v / 65536 * 65536) (v / 256 % 256 * 256)) (v % 256) = v := by
  have e1 : bits .or .u32 (v / 256 % 256 * 256) (v / 65536 * 65536) = v / 256 % 256 * 256 + v / 65536 * 65536 := u32_or16 _ _ (by omega) (by omega) (by omega) (by omega) (by omega)
  have e2 : bits .or .u32 (v % 256) (v / 256 % 256 * 256 + v / 65536 * 65536) = v % 256 + (v / 256 % 256 * 256 + v / 65536 * 65536) := u32_or8 _ _ (by omega) (by omega) (by omega) (by omega) (by omega)
  rw [or_swap (v / 65536 * 65536), e1, or_swap, e2]
  omega

theorem or32 (v : Int) (hv0 : 0 ≤ v) (hv1 : v < 4294967296) : bits .or .u32 (bits .or .u32 (bits .or .u32 (v % 256) (v / 256 % 256 * 256)) (v / 65536 % 256 * 65536)) (v / 16777216 * 16777216) = v := by
  have e1 : bits .or .u32 (v % 256) (v / 256 % 256 * 256) = v % 256 + v / 256 % 256 * 256 := u32_or8 _ _ (by omega) (by omega) (by omega) (by omega) (by omega)
  have e2 : bits .or .u32 (v % 256 + v / 256 % 256 * 256) (v / 65536 % 256 * 65536) = v % 256 + v / 256 % 256 * 256 + v / 65536 % 256 * 65536 := u32_or16 _ _ (by omega) (by omega) (by omega) (by omega) (by omega)
  have e3 : bits .or .u32 (v % 256 + v / 256 % 256 * 256 + v / 65536 % 256 * 65536) (v / 16777216 * 16777216) = v % 256 + v / 256 % 256 * 256 + v / 65536 % 256 * 65536 + v / 16777216 * 16777216 := u32_or24 _ _ (by omega) (by omega) (by omega) (by omega) (by omega)
  rw [e1, e2, e3]
  omega

theorem Below.drewQ {B : Nat} {a w : World} (h : Below B a w) (q : Nat) : Below B a (w.drewN q) := ⟨h.os, h.tape, h.output, h.size, h.block⟩

theorem cell_kept_alloc {w : World} {a : Addr} {v : Value} (h : w.cell? a = some v) (o : Obj) : (w.alloc o).cell? a = some v := (World.cell?_alloc_lt _ _ _ (World.block_lt_of_cell? _ _ h)).trans h

set_option maxHeartbeats 2000000 in
theorem uint32_calls (g o n k : Nat) (v : Int) (w : World) (hn : 4 ≤ n) (h0 : w.cell? ⟨g, o, none⟩ = some (.int .u8 (v / 16777216))) (h1 : w.cell? ⟨g, o + 1, none⟩ = some (.int .u8 (v / 65536 % 256)))
    (h2 : w.cell? ⟨g, o + 2, none⟩ = some (.int .u8 (v / 256 % 256))) (h3 : w.cell? ⟨g, o + 3, none⟩ = some (.int .u8 (v % 256))) (hv0 : 0 ≤ v) (hv1 : v < 4294967296) :
    Calls Ybad.prog 29 #[.agg #[], .slice (some ⟨g, o, none⟩) n k] w fun e w' => e = .returned (.int .u32 v) ∧ Below w.heap.size w w' := by
  have n0 : 0 < n := by omega
  have n1 : (1 : Int) < n := by omega
  have n2 : (2 : Int) < n := by omega
  have n3 : (3 : Int) < n := by omega
  have k0 := cell_kept_alloc h0
  have k1 := cell_kept_alloc h1
  have k2 := cell_kept_alloc h2
  have k3 := cell_kept_alloc h3
  have hor := or32 v hv0 hv1
  clear h0 h1 h2 h3
  go_enter Ybad.func29, Ybad.ntmps29
  go_wp2_with fail
  go_quiet (fail)
  go_wp2_with fail
  go_ret
  exact ⟨rfl, Below.drewQ ((Below.refl _ _).alloc (Nat.le_refl _) _) _⟩

set_option maxHeartbeats 2000000 in
theorem uint24_calls (g o n k : Nat) (v : Int) (w : World) (hn : 3 ≤ n) (h0 : w.cell? ⟨g, o, none⟩ = some (.int .u8 (v / 65536))) (h1 : w.cell? ⟨g, o + 1, none⟩ = some (.int .u8 (v / 256 % 256)))
    (h2 : w.cell? ⟨g, o + 2, none⟩ = some (.int .u8 (v % 256))) (hv0 : 0 ≤ v) (hv1 : v < 16777216) :
    Calls Ybad.prog 30 #[.slice (some ⟨g, o, none⟩) n k] w fun e w' => e = .returned (.int .u32 v) ∧ Below w.heap.size w w' := by
  have n0 : 0 < n := by omega
  have n1 : (1 : Int) < n := by omega
  have n2 : (2 : Int) < n := by omega
  have hor := or24 v hv0 hv1
  go_enter Ybad.func30, Ybad.ntmps30
  go_wp2_with fail
  go_quiet (fail)
  go_wp2_with fail
  go_ret
  exact ⟨rfl, Below.drewQ (Below.refl _ _) _⟩

end Go.Proofs.YbulkaroiDoor
