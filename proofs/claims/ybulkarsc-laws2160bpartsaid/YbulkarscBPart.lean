import Derived.Test.YbulkarscPart
set_option linter.unusedVariables false
namespace Go.Proofs.Ybulkarsc
open Go.RowKit Go.Deep

set_option maxRecDepth 100000 in
set_option maxHeartbeats 4000000 in
theorem bpart_nat (a0 a1 a2 a3 : Int) (F S A M K : Nat) (w : World) (hF : (509 : Int) - a0 % 510 = F) (hS : (1 : Int) + a1 % 510 = S) (hA : a2 % (S : Int) = A) (hM : (S : Int) - A = M) (hK : a3 % (M : Int) = K)
    (b0 : 0 ≤ a0) (b1 : 0 ≤ a1) (b2 : 0 ≤ a2) (b3 : 0 ≤ a3) (c0 : a0 < 4294967296) (c1 : a1 < 4294967296) (c2 : a2 < 4294967296) (c3 : a3 < 4294967296) (hA1 : A < S) (hK1 : K < M) :
    Calls Yba.prog 6 #[.int .u32 a0, .int .u32 a1, .int .u32 a2, .int .u32 a3] w fun e w' => e = .returned (.bool true) ∧ Below w.heap.size w w' := by
  have f1 : F ≤ 509 := by omega
  have s1 : 1 ≤ S := by omega
  have s2 : S ≤ 510 := by omega
  have m1 : A + M = S := by omega
  have wF : IntKind.i64.wrap (509 - a0 % 510) = F := by rw [IntKind.wrap_i64]; omega
  have wS : IntKind.u32.wrap (1 + a1 % 510) = S := by rw [IntKind.wrap_u32]; omega
  have wM : IntKind.u32.wrap ((S : Int) - a2 % (S : Int)) = M := by rw [IntKind.wrap_u32, hA]; omega
  have hA0 : 0 ≤ a2 % (S : Int) := by omega
  have hA9 : a2 % (S : Int) < S := by omega
  have nS : ¬ (S : Int) = 0 := by omega
  have nS' : ((S : Int) == 0) = false := beq_eq_false_iff_ne.2 nS
  have nM : ¬ (M : Int) = 0 := by omega
  have nM' : ((M : Int) == 0) = false := beq_eq_false_iff_ne.2 nM
  have wW : IntKind.i64.wrap ((F : Int) + A) = (F : Int) + A := by rw [IntKind.wrap_i64]; omega
  have wV : IntKind.i64.wrap ((F : Int) + A + K) = (F : Int) + A + K := by rw [IntKind.wrap_i64]; omega
  have E9 : Hid ((F : Int) + A + K = ((F + A + K : Nat) : Int)) := by show (F : Int) + A + K = ((F + A + K : Nat) : Int); omega
  have M1 : Hid (A + M = S) := m1
  have HA : Hid (a2 % (S : Int) = A) := hA
  have HK : Hid (a3 % (M : Int) = K) := hK
  clear m1 hM hA hK
  go_enter Yba.func6, Yba.ntmps6
  go_wp2_with fail
  refine (fill_calls w.heap.size _).mono ?_
  rintro e w2 ⟨rfl, hFi⟩
  rw [World.size_alloc] at hFi
  have hR : Ready w.heap.size (w.heap.size + 1) w w2 := Ready.of rfl hFi
  clear hFi
  rw [HA.out, HK.out, World.size_alloc]
  clear hF hS wF wS wM hA0 hA9
  go_wp2_with fail
  have m1 := M1.out
  by_cases hn : F + S ≤ 510
  · refine (batch_near (some ⟨w.heap.size + 1 + 1, 0, none⟩) (some ⟨w.heap.size + 1 + 1 + 1, 0, none⟩) F S w2 (by omega) s2 hn).mono ?_
    rintro e w3 ⟨rfl, rfl⟩
    have hR3 := hR.alloc (.cells (bcells (some ⟨w.heap.size + 1 + 1, 0, none⟩) none F S) 96)
    have hb3 := blk_alloc_new w2 (.cells (bcells (some ⟨w.heap.size + 1 + 1, 0, none⟩) none F S) 96)
    generalize w2.alloc (.cells (bcells (some ⟨w.heap.size + 1 + 1, 0, none⟩) none F S) 96) = w3 at *
    go_wp2_with fail
    refine (part_any w2.heap.size F A M (F + A) (F + A) S (some ⟨w.heap.size + 1 + 1, 0, none⟩) none (some ⟨w.heap.size + 1 + 1, 0, none⟩) none w3 hb3 rfl (by omega) (fun W => batch_near (some ⟨w.heap.size + 1 + 1, 0, none⟩) none (F + A) M W (by omega) (by omega) (by omega))).mono ?_
    rintro e w4 ⟨rfl, q4, rfl⟩
    have hR4 := (hR3.drewN q4).alloc (.cells (bcells (some ⟨w.heap.size + 1 + 1, 0, none⟩) none (F + A) M) 96)
    have hb4 := blk_alloc_new (w3.drewN q4) (.cells (bcells (some ⟨w.heap.size + 1 + 1, 0, none⟩) none (F + A) M) 96)
    have hz4 : (w3.drewN q4).heap.size = w3.heap.size := rfl
    rw [hz4] at hb4
    generalize (w3.drewN q4).alloc (.cells (bcells (some ⟨w.heap.size + 1 + 1, 0, none⟩) none (F + A) M) 96) = w4 at *
    obtain ⟨v, cv, zv, hT⟩ := hR4.take_c (want := F + A + K) (by omega)
    go_wp2_with fail
    refine (take_near w3.heap.size (w.heap.size + 1 + 1) (F + A) K M none v w4 hb4 (by omega) cv zv).mono ?_
    rintro e w5 ⟨rfl, q, rfl⟩
    have hT4 := hT q
    generalize (w4.drewN q).setCell ⟨w.heap.size + 1 + 1, F + A + K, none⟩ .nilFunc = w5 at *
    clear cv zv hT hR3 hb3 hR4 hb4 hz4
    go_wp2_with fail
    rw [E9.out]
    refine (check_taken hT4 (by omega)).mono ?_
    rintro e w6 ⟨rfl, hb6⟩
    go_wp2_with fail
    go_ret
    exact ⟨rfl, hb6⟩
  · by_cases hw : F + A < 510
    · by_cases hv : F + A + K < 510
      · refine (batch_over (some ⟨w.heap.size + 1 + 1, 0, none⟩) (some ⟨w.heap.size + 1 + 1 + 1, 0, none⟩) F S w2 (by omega) s2 hn).mono ?_
        rintro e w3 ⟨rfl, rfl⟩
        have hR3 := hR.alloc (.cells (bcells (some ⟨w.heap.size + 1 + 1, 0, none⟩) (some ⟨w.heap.size + 1 + 1 + 1, 0, none⟩) F S) 96)
        have hb3 := blk_alloc_new w2 (.cells (bcells (some ⟨w.heap.size + 1 + 1, 0, none⟩) (some ⟨w.heap.size + 1 + 1 + 1, 0, none⟩) F S) 96)
        generalize w2.alloc (.cells (bcells (some ⟨w.heap.size + 1 + 1, 0, none⟩) (some ⟨w.heap.size + 1 + 1 + 1, 0, none⟩) F S) 96) = w3 at *
        go_wp2_with fail
        refine (part_any w2.heap.size F A M (F + A) (F + A) S (some ⟨w.heap.size + 1 + 1, 0, none⟩) (some ⟨w.heap.size + 1 + 1 + 1, 0, none⟩) (some ⟨w.heap.size + 1 + 1, 0, none⟩) (some ⟨w.heap.size + 1 + 1 + 1, 0, none⟩) w3 hb3 rfl (by omega) (fun W => batch_over (some ⟨w.heap.size + 1 + 1, 0, none⟩) (some ⟨w.heap.size + 1 + 1 + 1, 0, none⟩) (F + A) M W (by omega) (by omega) (by omega))).mono ?_
        rintro e w4 ⟨rfl, q4, rfl⟩
        have hR4 := (hR3.drewN q4).alloc (.cells (bcells (some ⟨w.heap.size + 1 + 1, 0, none⟩) (some ⟨w.heap.size + 1 + 1 + 1, 0, none⟩) (F + A) M) 96)
        have hb4 := blk_alloc_new (w3.drewN q4) (.cells (bcells (some ⟨w.heap.size + 1 + 1, 0, none⟩) (some ⟨w.heap.size + 1 + 1 + 1, 0, none⟩) (F + A) M) 96)
        have hz4 : (w3.drewN q4).heap.size = w3.heap.size := rfl
        rw [hz4] at hb4
        generalize (w3.drewN q4).alloc (.cells (bcells (some ⟨w.heap.size + 1 + 1, 0, none⟩) (some ⟨w.heap.size + 1 + 1 + 1, 0, none⟩) (F + A) M) 96) = w4 at *
        obtain ⟨v, cv, zv, hT⟩ := hR4.take_c (want := F + A + K) (by omega)
        go_wp2_with fail
        refine (take_near w3.heap.size (w.heap.size + 1 + 1) (F + A) K M (some ⟨w.heap.size + 1 + 1 + 1, 0, none⟩) v w4 hb4 (by omega) cv zv).mono ?_
        rintro e w5 ⟨rfl, q, rfl⟩
        have hT4 := hT q
        generalize (w4.drewN q).setCell ⟨w.heap.size + 1 + 1, F + A + K, none⟩ .nilFunc = w5 at *
        clear cv zv hT hR3 hb3 hR4 hb4 hz4
        go_wp2_with fail
        rw [E9.out]
        refine (check_taken hT4 (by omega)).mono ?_
        rintro e w6 ⟨rfl, hb6⟩
        go_wp2_with fail
        go_ret
        exact ⟨rfl, hb6⟩
      · refine (batch_over (some ⟨w.heap.size + 1 + 1, 0, none⟩) (some ⟨w.heap.size + 1 + 1 + 1, 0, none⟩) F S w2 (by omega) s2 hn).mono ?_
        rintro e w3 ⟨rfl, rfl⟩
        have hR3 := hR.alloc (.cells (bcells (some ⟨w.heap.size + 1 + 1, 0, none⟩) (some ⟨w.heap.size + 1 + 1 + 1, 0, none⟩) F S) 96)
        have hb3 := blk_alloc_new w2 (.cells (bcells (some ⟨w.heap.size + 1 + 1, 0, none⟩) (some ⟨w.heap.size + 1 + 1 + 1, 0, none⟩) F S) 96)
        generalize w2.alloc (.cells (bcells (some ⟨w.heap.size + 1 + 1, 0, none⟩) (some ⟨w.heap.size + 1 + 1 + 1, 0, none⟩) F S) 96) = w3 at *
        go_wp2_with fail
        refine (part_any w2.heap.size F A M (F + A) (F + A) S (some ⟨w.heap.size + 1 + 1, 0, none⟩) (some ⟨w.heap.size + 1 + 1 + 1, 0, none⟩) (some ⟨w.heap.size + 1 + 1, 0, none⟩) (some ⟨w.heap.size + 1 + 1 + 1, 0, none⟩) w3 hb3 rfl (by omega) (fun W => batch_over (some ⟨w.heap.size + 1 + 1, 0, none⟩) (some ⟨w.heap.size + 1 + 1 + 1, 0, none⟩) (F + A) M W (by omega) (by omega) (by omega))).mono ?_
        rintro e w4 ⟨rfl, q4, rfl⟩
        have hR4 := (hR3.drewN q4).alloc (.cells (bcells (some ⟨w.heap.size + 1 + 1, 0, none⟩) (some ⟨w.heap.size + 1 + 1 + 1, 0, none⟩) (F + A) M) 96)
        have hb4 := blk_alloc_new (w3.drewN q4) (.cells (bcells (some ⟨w.heap.size + 1 + 1, 0, none⟩) (some ⟨w.heap.size + 1 + 1 + 1, 0, none⟩) (F + A) M) 96)
        have hz4 : (w3.drewN q4).heap.size = w3.heap.size := rfl
        rw [hz4] at hb4
        generalize (w3.drewN q4).alloc (.cells (bcells (some ⟨w.heap.size + 1 + 1, 0, none⟩) (some ⟨w.heap.size + 1 + 1 + 1, 0, none⟩) (F + A) M) 96) = w4 at *
        obtain ⟨v, cv, zv, hT⟩ := hR4.take_n (want := F + A + K) (k := F + A + K - 510) (by omega) (by omega)
        go_wp2_with fail
        refine (take_far w3.heap.size (w.heap.size + 1 + 1 + 1) (F + A) K (F + A + K - 510) M (some ⟨w.heap.size + 1 + 1, 0, none⟩) v w4 hb4 (by omega) (by omega) cv zv).mono ?_
        rintro e w5 ⟨rfl, q, rfl⟩
        have hT4 := hT q
        generalize (w4.drewN q).setCell ⟨w.heap.size + 1 + 1 + 1, F + A + K - 510, none⟩ .nilFunc = w5 at *
        clear cv zv hT hR3 hb3 hR4 hb4 hz4
        go_wp2_with fail
        rw [E9.out]
        refine (check_taken hT4 (by omega)).mono ?_
        rintro e w6 ⟨rfl, hb6⟩
        go_wp2_with fail
        go_ret
        exact ⟨rfl, hb6⟩
    · refine (batch_over (some ⟨w.heap.size + 1 + 1, 0, none⟩) (some ⟨w.heap.size + 1 + 1 + 1, 0, none⟩) F S w2 (by omega) s2 hn).mono ?_
      rintro e w3 ⟨rfl, rfl⟩
      have hR3 := hR.alloc (.cells (bcells (some ⟨w.heap.size + 1 + 1, 0, none⟩) (some ⟨w.heap.size + 1 + 1 + 1, 0, none⟩) F S) 96)
      have hb3 := blk_alloc_new w2 (.cells (bcells (some ⟨w.heap.size + 1 + 1, 0, none⟩) (some ⟨w.heap.size + 1 + 1 + 1, 0, none⟩) F S) 96)
      generalize w2.alloc (.cells (bcells (some ⟨w.heap.size + 1 + 1, 0, none⟩) (some ⟨w.heap.size + 1 + 1 + 1, 0, none⟩) F S) 96) = w3 at *
      go_wp2_with fail
      refine (part_any w2.heap.size F A M (F + A) (F + A - 510) S (some ⟨w.heap.size + 1 + 1, 0, none⟩) (some ⟨w.heap.size + 1 + 1 + 1, 0, none⟩) (some ⟨w.heap.size + 1 + 1 + 1, 0, none⟩) none w3 hb3 rfl (by omega) (fun W => batch_far (some ⟨w.heap.size + 1 + 1, 0, none⟩) (some ⟨w.heap.size + 1 + 1 + 1, 0, none⟩) (F + A) M W (by omega) (by omega) (by omega) (by omega))).mono ?_
      rintro e w4 ⟨rfl, q4, rfl⟩
      have hR4 := (hR3.drewN q4).alloc (.cells (bcells (some ⟨w.heap.size + 1 + 1 + 1, 0, none⟩) none (F + A - 510) M) 96)
      have hb4 := blk_alloc_new (w3.drewN q4) (.cells (bcells (some ⟨w.heap.size + 1 + 1 + 1, 0, none⟩) none (F + A - 510) M) 96)
      have hz4 : (w3.drewN q4).heap.size = w3.heap.size := rfl
      rw [hz4] at hb4
      generalize (w3.drewN q4).alloc (.cells (bcells (some ⟨w.heap.size + 1 + 1 + 1, 0, none⟩) none (F + A - 510) M) 96) = w4 at *
      obtain ⟨v, cv, zv, hT⟩ := hR4.take_n (want := F + A + K) (k := F + A - 510 + K) (by omega) (by omega)
      go_wp2_with fail
      refine (take_near w3.heap.size (w.heap.size + 1 + 1 + 1) (F + A - 510) K M none v w4 hb4 (by omega) cv zv).mono ?_
      rintro e w5 ⟨rfl, q, rfl⟩
      have hT4 := hT q
      generalize (w4.drewN q).setCell ⟨w.heap.size + 1 + 1 + 1, F + A - 510 + K, none⟩ .nilFunc = w5 at *
      clear cv zv hT hR3 hb3 hR4 hb4 hz4
      go_wp2_with fail
      rw [E9.out]
      refine (check_taken hT4 (by omega)).mono ?_
      rintro e w6 ⟨rfl, hb6⟩
      go_wp2_with fail
      go_ret
      exact ⟨rfl, hb6⟩

theorem u32_fine {n : Int} (h : (Lit.int .u32 n).wf = true) : 0 ≤ n ∧ n < 4294967296 := by
  simp [Lit.wf, IntKind.min, IntKind.max, IntKind.signed, IntKind.bits] at h; omega

theorem bpart_walk (a0 a1 a2 a3 : Int) (w0 : (Lit.int .u32 a0).wf = true) (w1 : (Lit.int .u32 a1).wf = true) (w2 : (Lit.int .u32 a2).wf = true) (w3 : (Lit.int .u32 a3).wf = true) (w : World) :
    Calls Yba.prog 6 #[.int .u32 a0, .int .u32 a1, .int .u32 a2, .int .u32 a3] w fun e w' => e = .returned (.bool true) ∧ Below w.heap.size w w' := by
  have b0 := u32_fine w0
  have b1 := u32_fine w1
  have b2 := u32_fine w2
  have b3 := u32_fine w3
  obtain ⟨F, hF⟩ := Int.eq_ofNat_of_zero_le (show (0 : Int) ≤ 509 - a0 % 510 by omega)
  obtain ⟨S, hS⟩ := Int.eq_ofNat_of_zero_le (show (0 : Int) ≤ 1 + a1 % 510 by omega)
  obtain ⟨A, hA⟩ := Int.eq_ofNat_of_zero_le (Int.emod_nonneg a2 (show ((S : Int)) ≠ 0 by omega))
  have hA1 := Int.emod_lt_of_pos a2 (show (0 : Int) < S by omega)
  obtain ⟨M, hM⟩ := Int.eq_ofNat_of_zero_le (show (0 : Int) ≤ (S : Int) - A by omega)
  obtain ⟨K, hK⟩ := Int.eq_ofNat_of_zero_le (Int.emod_nonneg a3 (show ((M : Int)) ≠ 0 by omega))
  have hK1 := Int.emod_lt_of_pos a3 (show (0 : Int) < M by omega)
  exact bpart_nat a0 a1 a2 a3 F S A M K w hF hS hA hM hK b0.1 b1.1 b2.1 b3.1 b0.2 b1.2 b2.2 b3.2 (by omega) (by omega)

end Go.Proofs.Ybulkarsc
