import Derived.Test.YbulkarscFill
set_option linter.unusedVariables false
namespace Go.Proofs.Ybulkarsc
open Go.RowKit Go.Deep

def bcells (pc pn : Option Addr) (first size : Nat) : Array Value := #[.pointer pc, .pointer pn, .int .i64 first, .int .u32 0, .int .u32 size]

set_option maxRecDepth 100000 in
theorem batch_near (pc pn : Option Addr) (first size : Nat) (w : World) (h1 : first < 510) (h2 : size ≤ 510) (h3 : first + size ≤ 510) :
    Calls Yba.prog 14 #[.pointer pc, .pointer pn, .int .i64 first, .int .u32 size] w fun e w' => e = .returned (.pointer (some ⟨w.heap.size, 0, none⟩)) ∧ w' = w.alloc (.cells (bcells pc none first size) 96) := by
  have e1 : (first : Int) < 510 := by omega
  have e2 : (first : Int) + size ≤ 510 := by omega
  go_enter Yba.func14, Yba.ntmps14
  go_wp2_with fail
  go_ret
  exact ⟨rfl, rfl⟩

set_option maxRecDepth 100000 in
theorem batch_over (pc pn : Option Addr) (first size : Nat) (w : World) (h1 : first < 510) (h2 : size ≤ 510) (h3 : ¬ first + size ≤ 510) :
    Calls Yba.prog 14 #[.pointer pc, .pointer pn, .int .i64 first, .int .u32 size] w fun e w' => e = .returned (.pointer (some ⟨w.heap.size, 0, none⟩)) ∧ w' = w.alloc (.cells (bcells pc pn first size) 96) := by
  have e1 : (first : Int) < 510 := by omega
  have e2 : ¬ (first : Int) + size ≤ 510 := by omega
  go_enter Yba.func14, Yba.ntmps14
  go_wp2_with fail
  go_ret
  exact ⟨rfl, rfl⟩

set_option maxRecDepth 100000 in
theorem batch_far (pc pn : Option Addr) (first size : Nat) (w : World) (h0 : ¬ first < 510) (h1 : first ≤ 1100) (h2 : size ≤ 510) (h3 : first - 510 + size ≤ 510) :
    Calls Yba.prog 14 #[.pointer pc, .pointer pn, .int .i64 first, .int .u32 size] w fun e w' => e = .returned (.pointer (some ⟨w.heap.size, 0, none⟩)) ∧ w' = w.alloc (.cells (bcells pn none (first - 510) size) 96) := by
  have e1 : (510 : Int) ≤ first := by omega
  have e2 : (first : Int) - 510 + size ≤ 510 := by omega
  have e3 : ((first - 510 : Nat) : Int) = (first : Int) - 510 := by omega
  unfold bcells
  rw [e3]
  go_enter Yba.func14, Yba.ntmps14
  go_wp2_with fail
  go_ret
  exact ⟨rfl, rfl⟩

set_option maxRecDepth 100000 in
set_option maxHeartbeats 2000000 in
theorem take_near (bb c first i size : Nat) (pn : Option Addr) (v : Value) (w : World) (hb : w.heap[bb]? = some (.cells (bcells (some ⟨c, 0, none⟩) pn first size) 96 (0, 0))) (hj : first + i < 510)
    (hc : w.cell? ⟨c, first + i, none⟩ = some v) (hz : w.frozen? ⟨c, first + i, none⟩ = false) :
    Calls Yba.prog 15 #[.pointer (some ⟨bb, 0, none⟩), .int .u32 i] w fun e w' => e = .returned v ∧ ∃ q, w' = (w.drewN q).setCell ⟨c, first + i, none⟩ .nilFunc := by
  have b0 : w.cell? ⟨bb, 0, none⟩ = some (.pointer (some ⟨c, 0, none⟩)) := by simp [World.cell?, hb, bcells]
  have b2 : w.cell? ⟨bb, 2, none⟩ = some (.int .i64 first) := by simp [World.cell?, hb, bcells]
  have e1 : (first : Int) + i < 510 := by omega
  have e2 : ((first : Int) + i).toNat = first + i := by omega
  have e3 : (0 : Int) ≤ (first : Int) + i := by omega
  go_enter Yba.func15, Yba.ntmps15
  go_wp2_with fail
  go_quiet (fail)
  go_wp2_with fail
  go_ret
  exact ⟨rfl, _, rfl⟩

set_option maxRecDepth 100000 in
set_option maxHeartbeats 2000000 in
theorem take_far (bb n first i j size : Nat) (pc : Option Addr) (v : Value) (w : World) (hb : w.heap[bb]? = some (.cells (bcells pc (some ⟨n, 0, none⟩) first size) 96 (0, 0))) (hj : first + i = 510 + j) (hj5 : j < 510)
    (hc : w.cell? ⟨n, j, none⟩ = some v) (hz : w.frozen? ⟨n, j, none⟩ = false) :
    Calls Yba.prog 15 #[.pointer (some ⟨bb, 0, none⟩), .int .u32 i] w fun e w' => e = .returned v ∧ ∃ q, w' = (w.drewN q).setCell ⟨n, j, none⟩ .nilFunc := by
  have b0 : w.cell? ⟨bb, 0, none⟩ = some (.pointer pc) := by simp [World.cell?, hb, bcells]
  have b1 : w.cell? ⟨bb, 1, none⟩ = some (.pointer (some ⟨n, 0, none⟩)) := by simp [World.cell?, hb, bcells]
  have b2 : w.cell? ⟨bb, 2, none⟩ = some (.int .i64 first) := by simp [World.cell?, hb, bcells]
  have e1 : (first : Int) + i = 510 + j := by omega
  have hfi : first ≤ 1100 ∧ i ≤ 1100 := by omega
  have w1 : IntKind.i64.wrap ((first : Int) + i) = 510 + j := by rw [IntKind.wrap_i64]; omega
  have w2 : IntKind.i64.wrap ((510 : Int) + j - 510) = j := by rw [IntKind.wrap_i64]; omega
  have e5 : (510 : Int) ≤ 510 + j := by omega
  have e6 : (j : Int) < 510 := by omega
  clear hb hj
  go_enter Yba.func15, Yba.ntmps15
  go_wp2_with fail
  go_quiet (fail)
  go_wp2_with fail
  go_ret
  exact ⟨rfl, _, rfl⟩

end Go.Proofs.Ybulkarsc
