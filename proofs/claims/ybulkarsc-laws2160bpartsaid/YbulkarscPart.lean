import Derived.Test.YbulkarscB
set_option linter.unusedVariables false
namespace Go.Proofs.Ybulkarsc
open Go.RowKit Go.Deep

set_option maxRecDepth 100000 in
set_option maxHeartbeats 2000000 in
theorem part_any (bb first i n G g' size : Nat) (pc pn qc qn : Option Addr) (w : World) (hb : w.heap[bb]? = some (.cells (bcells pc pn first size) 96 (0, 0))) (hG : first + i = G) (hG1 : G ≤ 1100)
    (hcall : ∀ W : World, Calls Yba.prog 14 #[.pointer pc, .pointer pn, .int .i64 G, .int .u32 n] W fun e w' => e = .returned (.pointer (some ⟨W.heap.size, 0, none⟩)) ∧ w' = W.alloc (.cells (bcells qc qn g' n) 96)) :
    Calls Yba.prog 17 #[.pointer (some ⟨bb, 0, none⟩), .int .u32 i, .int .u32 n] w fun e w' => e = .returned (.pointer (some ⟨w.heap.size, 0, none⟩)) ∧ ∃ q, w' = (w.drewN q).alloc (.cells (bcells qc qn g' n) 96) := by
  have b0 : w.cell? ⟨bb, 0, none⟩ = some (.pointer pc) := by simp [World.cell?, hb, bcells]
  have b1 : w.cell? ⟨bb, 1, none⟩ = some (.pointer pn) := by simp [World.cell?, hb, bcells]
  have b2 : w.cell? ⟨bb, 2, none⟩ = some (.int .i64 first) := by simp [World.cell?, hb, bcells]
  have hl := heap_lt hb
  have wI : IntKind.i64.wrap (i : Int) = (i : Int) := by rw [IntKind.wrap_i64]; omega
  have wG : IntKind.i64.wrap ((first : Int) + i) = (G : Int) := by rw [IntKind.wrap_i64]; omega
  have hk : ∀ (o : Obj) (j : Nat), (w.alloc o).cell? ⟨bb, j, none⟩ = w.cell? ⟨bb, j, none⟩ := fun o j => World.cell?_alloc_lt _ _ _ hl
  have HC : Hid (∀ W : World, Calls Yba.prog 14 #[.pointer pc, .pointer pn, .int .i64 G, .int .u32 n] W fun e w' => e = .returned (.pointer (some ⟨W.heap.size, 0, none⟩)) ∧ w' = W.alloc (.cells (bcells qc qn g' n) 96)) := hcall
  clear hcall hb hG
  go_enter Yba.func17, Yba.ntmps17
  go_wp2_with fail
  go_region_held3 (fun w' => w'.cell? ⟨bb, 0, none⟩ = some (.pointer pc) ∧ w'.cell? ⟨bb, 1, none⟩ = some (.pointer pn) ∧ w'.cell? ⟨bb, 2, none⟩ = some (.int .i64 first)) (go_keep)
    (first | (go_at_call 14; (with_reducible refine (HC.out _).mono ?_); rintro e w1 ⟨rfl, rfl⟩))
  go_wp2_with fail
  go_ret
  exact ⟨rfl, 1, rfl⟩

theorem Ready.drewN {gb B : Nat} {w w3 : World} (h : Ready gb B w w3) (q : Nat) : Ready gb B w (w3.drewN q) := by
  obtain ⟨f1, f2, r1, r2, ht, hx, hg, h1, h2, hb⟩ := h
  exact ⟨f1, f2, r1, r2, ht, hx, hg, h1, h2, ⟨hb.os, hb.tape, hb.output, hb.size, hb.block⟩⟩

end Go.Proofs.Ybulkarsc
