import Derived.Test.YbulkarscB
set_option linter.unusedVariables false
namespace Go.Proofs.Ybulkarsc
open Go.RowKit Go.Deep

set_option maxRecDepth 100000 in
set_option maxHeartbeats 2000000 in
theorem btake_nat (a0 a1 a2 : Int) (F S I : Nat) (w : World) (hF : (509 : Int) - a0 % 510 = F) (hS : (1 : Int) + a1 % 510 = S) (hI : a2 % (S : Int) = I) (b0 : 0 ≤ a0) (b1 : 0 ≤ a1) (b2 : 0 ≤ a2) (c0 : a0 < 4294967296) (c1 : a1 < 4294967296) (c2 : a2 < 4294967296) :
    Calls Yba.prog 5 #[.int .u32 a0, .int .u32 a1, .int .u32 a2] w fun e w' => e = .returned (.bool true) ∧ Below w.heap.size w w' := by
  have f1 : F ≤ 509 := by omega
  have s1 : 1 ≤ S := by omega
  have s2 : S ≤ 510 := by omega
  have i1 : I < S := by have := Int.emod_lt_of_pos a2 (show (0 : Int) < S by omega); omega
  have wF : IntKind.i64.wrap (509 - a0 % 510) = F := by rw [IntKind.wrap_i64]; omega
  have wS : IntKind.u32.wrap (1 + a1 % 510) = S := by rw [IntKind.wrap_u32]; omega
  have nS : ¬ (S : Int) = 0 := by omega
  have nS' : ((S : Int) == 0) = false := beq_eq_false_iff_ne.2 nS
  have wW : IntKind.i64.wrap ((F : Int) + I) = (F : Int) + I := by rw [IntKind.wrap_i64]; omega
  go_enter Yba.func5, Yba.ntmps5
  go_wp2_with fail
  refine (fill_calls w.heap.size _).mono ?_
  rintro e w2 ⟨rfl, hFi⟩
  rw [World.size_alloc] at hFi
  have hR : Ready w.heap.size (w.heap.size + 1) w w2 := Ready.of rfl hFi
  clear hFi
  rw [hI, World.size_alloc]
  have E9 : Hid ((F : Int) + I = ((F + I : Nat) : Int)) := by show (F : Int) + I = ((F + I : Nat) : Int); omega
  clear hF hS hI wF wS
  go_wp2_with fail
  by_cases hn : F + S ≤ 510
  · refine (batch_near (some ⟨w.heap.size + 1 + 1, 0, none⟩) (some ⟨w.heap.size + 1 + 1 + 1, 0, none⟩) F S w2 (by omega) s2 hn).mono ?_
    rintro e w3 ⟨rfl, rfl⟩
    have hR3 := hR.alloc (.cells (bcells (some ⟨w.heap.size + 1 + 1, 0, none⟩) none F S) 96)
    have hb3 := blk_alloc_new w2 (.cells (bcells (some ⟨w.heap.size + 1 + 1, 0, none⟩) none F S) 96)
    generalize w2.alloc (.cells (bcells (some ⟨w.heap.size + 1 + 1, 0, none⟩) none F S) 96) = w3 at *
    obtain ⟨v, cv, zv, hT⟩ := hR3.take_c (want := F + I) (by omega)
    go_wp2_with fail
    refine (take_near w2.heap.size (w.heap.size + 1 + 1) F I S none v w3 hb3 (by omega) cv zv).mono ?_
    rintro e w4 ⟨rfl, q, rfl⟩
    have hT4 := hT q
    generalize (w3.drewN q).setCell ⟨w.heap.size + 1 + 1, F + I, none⟩ .nilFunc = w4 at *
    clear cv zv hT hR3 hb3
    go_wp2_with fail
    rw [E9.out]
    refine (check_taken hT4 (by omega)).mono ?_
    rintro e w5 ⟨rfl, hb5⟩
    go_wp2_with fail
    go_ret
    exact ⟨rfl, hb5⟩
  · by_cases hw : F + I < 510
    · refine (batch_over (some ⟨w.heap.size + 1 + 1, 0, none⟩) (some ⟨w.heap.size + 1 + 1 + 1, 0, none⟩) F S w2 (by omega) s2 hn).mono ?_
      rintro e w3 ⟨rfl, rfl⟩
      have hR3 := hR.alloc (.cells (bcells (some ⟨w.heap.size + 1 + 1, 0, none⟩) (some ⟨w.heap.size + 1 + 1 + 1, 0, none⟩) F S) 96)
      have hb3 := blk_alloc_new w2 (.cells (bcells (some ⟨w.heap.size + 1 + 1, 0, none⟩) (some ⟨w.heap.size + 1 + 1 + 1, 0, none⟩) F S) 96)
      generalize w2.alloc (.cells (bcells (some ⟨w.heap.size + 1 + 1, 0, none⟩) (some ⟨w.heap.size + 1 + 1 + 1, 0, none⟩) F S) 96) = w3 at *
      obtain ⟨v, cv, zv, hT⟩ := hR3.take_c (want := F + I) (by omega)
      go_wp2_with fail
      refine (take_near w2.heap.size (w.heap.size + 1 + 1) F I S (some ⟨w.heap.size + 1 + 1 + 1, 0, none⟩) v w3 hb3 (by omega) cv zv).mono ?_
      rintro e w4 ⟨rfl, q, rfl⟩
      have hT4 := hT q
      generalize (w3.drewN q).setCell ⟨w.heap.size + 1 + 1, F + I, none⟩ .nilFunc = w4 at *
      clear cv zv hT hR3 hb3
      go_wp2_with fail
      rw [E9.out]
      refine (check_taken hT4 (by omega)).mono ?_
      rintro e w5 ⟨rfl, hb5⟩
      go_wp2_with fail
      go_ret
      exact ⟨rfl, hb5⟩
    · refine (batch_over (some ⟨w.heap.size + 1 + 1, 0, none⟩) (some ⟨w.heap.size + 1 + 1 + 1, 0, none⟩) F S w2 (by omega) s2 hn).mono ?_
      rintro e w3 ⟨rfl, rfl⟩
      have hR3 := hR.alloc (.cells (bcells (some ⟨w.heap.size + 1 + 1, 0, none⟩) (some ⟨w.heap.size + 1 + 1 + 1, 0, none⟩) F S) 96)
      have hb3 := blk_alloc_new w2 (.cells (bcells (some ⟨w.heap.size + 1 + 1, 0, none⟩) (some ⟨w.heap.size + 1 + 1 + 1, 0, none⟩) F S) 96)
      generalize w2.alloc (.cells (bcells (some ⟨w.heap.size + 1 + 1, 0, none⟩) (some ⟨w.heap.size + 1 + 1 + 1, 0, none⟩) F S) 96) = w3 at *
      obtain ⟨v, cv, zv, hT⟩ := hR3.take_n (want := F + I) (k := F + I - 510) (by omega) (by omega)
      go_wp2_with fail
      refine (take_far w2.heap.size (w.heap.size + 1 + 1 + 1) F I (F + I - 510) S (some ⟨w.heap.size + 1 + 1, 0, none⟩) v w3 hb3 (by omega) (by omega) cv zv).mono ?_
      rintro e w4 ⟨rfl, q, rfl⟩
      have hT4 := hT q
      generalize (w3.drewN q).setCell ⟨w.heap.size + 1 + 1 + 1, F + I - 510, none⟩ .nilFunc = w4 at *
      clear cv zv hT hR3 hb3
      go_wp2_with fail
      rw [E9.out]
      refine (check_taken hT4 (by omega)).mono ?_
      rintro e w5 ⟨rfl, hb5⟩
      go_wp2_with fail
      go_ret
      exact ⟨rfl, hb5⟩

theorem u32_fine {n : Int} (h : (Lit.int .u32 n).wf = true) : 0 ≤ n ∧ n < 4294967296 := by
  simp [Lit.wf, IntKind.min, IntKind.max, IntKind.signed, IntKind.bits] at h; omega

theorem btake_walk (a0 a1 a2 : Int) (w0 : (Lit.int .u32 a0).wf = true) (w1 : (Lit.int .u32 a1).wf = true) (w2 : (Lit.int .u32 a2).wf = true) (w : World) :
    Calls Yba.prog 5 #[.int .u32 a0, .int .u32 a1, .int .u32 a2] w fun e w' => e = .returned (.bool true) ∧ Below w.heap.size w w' := by
  have b0 := u32_fine w0
  have b1 := u32_fine w1
  have b2 := u32_fine w2
  obtain ⟨F, hF⟩ := Int.eq_ofNat_of_zero_le (show (0 : Int) ≤ 509 - a0 % 510 by omega)
  obtain ⟨S, hS⟩ := Int.eq_ofNat_of_zero_le (show (0 : Int) ≤ 1 + a1 % 510 by omega)
  obtain ⟨I, hI⟩ := Int.eq_ofNat_of_zero_le (Int.emod_nonneg a2 (show ((S : Int)) ≠ 0 by omega))
  exact btake_nat a0 a1 a2 F S I w hF hS hI b0.1 b1.1 b2.1 b0.2 b1.2 b2.2

end Go.Proofs.Ybulkarsc
