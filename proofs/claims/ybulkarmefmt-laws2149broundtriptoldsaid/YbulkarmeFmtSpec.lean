import Derived.Test.YbulkarmeFmtPar
import Derived.Laws.CopyOwn
import Derived.Deep.OwnRows
set_option linter.unusedVariables false
namespace Go.Proofs.YbulkarmeFmt
open Go.RowKit Go.Extern.Stop Go.Stop Go.Extern Go.Deep

theorem Ybaf.info5' : (Ybaf.prog.info? 5).map (fun i => (i.zero, i.size, i.bytes)) = some (some (.int .u8 0), 1, 1) := by kernel_rfl
theorem Ybaf.size5' : (Ybaf.prog.info? 5).map (·.size) = some 1 := by kernel_rfl

/-- 'copy(buf, b)' into a buffer that has just been made as long as b: a new world, in which the new block holds b's numbers. -/
theorem copy_made (sp : Option Addr) (cap : Nat) (xs : List Int) (w : World)
    (hsrc : 0 < xs.length → ∃ ad, sp = some ad ∧ ad.block < w.heap.size ∧ ∀ j v, (xs.map (Value.int .u8))[j]? = some v → w.cell? (ad.add j) = some v) :
    ∃ w1, (Builtin.copy_ #[22, 22] 3 #[.slice (some ⟨w.heap.size, 0, none⟩) xs.length xs.length, .slice sp xs.length cap]).run Ybaf.prog (w.alloc (.cells (madeCells #[.int .u8 0] xs.length) 5)) = .ok (.int .i64 xs.length) w1 ∧
      w1.heap[w.heap.size]? = some (.cells (xs.map (Value.int .u8)).toArray 5 (0, 0)) ∧ Below w.heap.size w w1 ∧ w1.heap.size = w.heap.size + 1 := by
  have hnew : (w.alloc (.cells (madeCells #[.int .u8 0] xs.length) 5)).heap[w.heap.size]? = some (.cells (madeCells #[.int .u8 0] xs.length) 5 (0, 0)) := heap_alloc_new w _
  by_cases h0 : xs.length = 0
  · obtain rfl : xs = [] := List.eq_nil_of_length_eq_zero h0
    refine ⟨_, run_copy_none _ 22 22 3 5 _ _ _ _ _ _ Ybaf.underlying22 Ybaf.size5' (by simp), ?_, (Below.refl _ _).alloc (Nat.le_refl _) _, by simp⟩
    rw [hnew]; simp [madeCells]
  · obtain ⟨ad, rfl, hlt, hsrc⟩ := hsrc (by omega)
    have hr := run_copy_row (P := Ybaf.prog) (w.alloc (.cells (madeCells #[.int .u8 0] xs.length) 5)) 22 22 3 5 w.heap.size 0 xs.length xs.length ad xs.length cap _ 5 (xs.map (Value.int .u8)) Ybaf.underlying22 Ybaf.size5' hnew (by simp)
      (fun j v hj => (World.cell?_alloc_lt _ _ _ (by unfold Addr.add; split <;> exact hlt)).trans (hsrc j v hj)) (by simp [size_madeCells]) (by simp [Value.oneCell'])
    have e1 : (List.take 0 (madeCells #[Value.int IntKind.u8 0] xs.length).toList ++ List.map (Value.int IntKind.u8) xs ++ List.drop (0 + (List.map (Value.int IntKind.u8) xs).length) (madeCells #[Value.int IntKind.u8 0] xs.length).toList).toArray = (xs.map (Value.int .u8)).toArray := by
      simp [size_madeCells]
    rw [e1] at hr
    refine ⟨_, hr.trans (by simp [goInt]), setRow_heap _ _ _ _ 5 _ hnew, below_setRow ((Below.refl _ _).alloc (Nat.le_refl _) _) (Nat.le_refl _) _, by simp [World.setRow]⟩

theorem below_par {w w1 w2 : World} {D : Obj} (h : Below w.heap.size w w1) (hg : (w1.alloc D).grownBy w2 (some w1.heap.size)) : Below w.heap.size w w2 :=
  (h.alloc h.size D).grown hg (by have := h.size; simp; omega) (fun k e => by cases e; exact h.size)

set_option maxHeartbeats 400000 in
theorem spec_long (sp : Option Addr) (n cap : Nat) (off first : Int) (w : World) (hl : 1024 < n) :
    Calls Ybaf.prog 3 #[.slice sp n cap, .int .u16 off, .int .i64 first] w fun e w' => e = .returned (.bool true) ∧ w' = w := by
  have hl' : (1024 : Int) < n := by omega
  go_enter Ybaf.func3, Ybaf.ntmps3
  go_wp2
  go_ret
  exact ⟨rfl, rfl⟩

set_option maxHeartbeats 400000 in
theorem spec_short (F : Interp) (sp : Option Addr) (cap : Nat) (xs : List Int) (off first : Int) (w : World) (hF : F.answers w.tape)
    (hx : ∀ x ∈ xs, 0 ≤ x ∧ x ≤ 255) (h0 : 0 ≤ off) (h1 : off ≤ 65535) (hl : xs.length ≤ 1024)
    (hsrc : 0 < xs.length → ∃ ad, sp = some ad ∧ ad.block < w.heap.size ∧ ∀ j v, (xs.map (Value.int .u8))[j]? = some v → w.cell? (ad.add j) = some v)
    (hr : (xs.length : Int) - off % (xs.length + 1) < 2) :
    Calls Ybaf.prog 3 #[.slice sp xs.length cap, .int .u16 off, .int .i64 first] w fun e w' => e = .returned (.bool true) ∧ Below w.heap.size w w' := by
  have hmk := run_make_row' (P := Ybaf.prog) 22 5 (.int .u8 0) 1 Ybaf.underlying22 Ybaf.info5' rfl .i64 .i64 xs.length (by omega) (by omega)
  obtain ⟨w1, hcp, hblk, hbel, hsz⟩ := copy_made sp cap xs w hsrc
  have HB : Hid (w1.heap[w.heap.size]? = some (.cells (xs.map (Value.int .u8)).toArray 5 (0, 0))) := hblk
  have HZ : Hid (w1.heap.size = w.heap.size + 1) := hsz
  clear hsrc hblk hsz
  have hnil := fun (wx : World) (a : Option Addr) (l c : Nat) => Lib.run_eql_slice_nil (P := Ybaf.prog) wx 22 5 a l c 0 0 Ybaf.underlying22
  go_enter Ybaf.func3, Ybaf.ntmps3
  go_wp2_with fail
  have ho0 : 0 ≤ off % ((xs.length : Int) + 1) := Int.emod_nonneg _ (by omega)
  have ho1 : off % ((xs.length : Int) + 1) < xs.length + 1 := Int.emod_lt_of_pos _ (by omega)
  refine (par_short F w1.heap.size w.heap.size xs.length xs.length (off % ((xs.length : Int) + 1)) first ⟨#[116, 104, 101, 32, 118, 97, 108, 117, 101]⟩ _ ?_ ?_ ?_ ?_ ?_ ?_ (by omega) ho0 (by omega) hr).mono ?_
  · show F.answers w1.tape
    rw [hbel.tape]; exact hF
  · go_simp
  · go_simp
  · go_simp
  · go_simp
  · simp
  rintro e w2 ⟨a, rfl, hg2, hoff⟩
  have hz2 : w1.heap.size < w2.heap.size := by have := hg2.size; simp at this; omega
  have hb2 := below_par hbel hg2
  go_wp2_with fail
  go_ret
  exact ⟨rfl, hb2.alloc hb2.size _⟩

theorem cell_blk {w : World} {g j : Nat} {xs : List Int} {v : Int} (hb : w.heap[g]? = some (.cells (xs.map (Value.int .u8)).toArray 5 (0, 0))) (hj : xs[j]? = some v) : w.cell? ⟨g, j, none⟩ = some (.int .u8 v) := by
  simp [World.cell?, hb, hj]

set_option maxHeartbeats 400000 in
theorem spec_cut (F : Interp) (sp : Option Addr) (cap k : Nat) (xs : List Int) (off first n : Int) (w : World) (hF : F.answers w.tape)
    (hx : ∀ x ∈ xs, 0 ≤ x ∧ x ≤ 255) (h0 : 0 ≤ off) (h1 : off ≤ 65535) (hl : xs.length ≤ 1024)
    (hsrc : 0 < xs.length → ∃ ad, sp = some ad ∧ ad.block < w.heap.size ∧ ∀ j v, (xs.map (Value.int .u8))[j]? = some v → w.cell? (ad.add j) = some v)
    (hk : off % ((xs.length : Int) + 1) = k) (hk2 : k + 2 ≤ xs.length) (hn : xs[k + 1]? = some n) (hlt : (xs.length : Int) - (k + 2) < n) :
    Calls Ybaf.prog 3 #[.slice sp xs.length cap, .int .u16 off, .int .i64 first] w fun e w' => e = .returned (.bool true) ∧ Below w.heap.size w w' := by
  have hn01 := hx n (List.mem_of_getElem? hn)
  obtain ⟨hn0, hn1⟩ := hn01
  have hwn : IntKind.i64.wrap n = n := by rw [IntKind.wrap_i64]; omega
  have hmk := run_make_row' (P := Ybaf.prog) 22 5 (.int .u8 0) 1 Ybaf.underlying22 Ybaf.info5' rfl .i64 .i64 xs.length (by omega) (by omega)
  obtain ⟨w1, hcp, hblk, hbel, hsz⟩ := copy_made sp cap xs w hsrc
  have hcn := cell_blk hblk hn
  have hsz' : w.heap.size < w1.heap.size := by omega
  have HX : Hid (∀ x ∈ xs, 0 ≤ x ∧ x ≤ 255) := hx
  have HN : Hid (xs[k + 1]? = some n) := hn
  clear hsrc hblk hsz hx hn
  have hnil := fun (wx : World) (a : Option Addr) (l c : Nat) => Lib.run_eql_slice_nil (P := Ybaf.prog) wx 22 5 a l c 0 0 Ybaf.underlying22
  go_enter Ybaf.func3, Ybaf.ntmps3
  go_wp2_with fail
  refine (par_cut F w1.heap.size w.heap.size xs.length xs.length k first n ⟨#[116, 104, 101, 32, 118, 97, 108, 117, 101]⟩ _ ?_ ?_ ?_ ?_ ?_ ?_ ?_ ?_ ?_ ?_ (by omega) (Nat.le_refl _) (by omega) (by omega) (by omega) hn0 hn1 hlt).mono ?_
  · show F.answers w1.tape
    rw [hbel.tape]; exact hF
  · go_simp
  · go_simp
  · go_simp
  · go_simp
  · go_simp
  · go_simp
  · simp; omega
  · omega
  · simp
  rintro e w2 ⟨a, rfl, hg2, hoff⟩
  have hz2 : w1.heap.size < w2.heap.size := by have := hg2.size; simp at this; omega
  have hz3 : w.heap.size < w2.heap.size := by omega
  have hb2 := below_par hbel hg2
  have hc2 : w2.cell? ⟨w.heap.size, k + 1, none⟩ = some (.int .u8 n) := (hg2.cell_far ⟨w.heap.size, k + 1, none⟩ (by simp; omega) (by simp; omega)).trans ((World.cell?_alloc_lt _ _ _ hsz').trans hcn)
  go_wp2_with fail
  go_ret
  exact ⟨rfl, hb2.alloc hb2.size _⟩

set_option maxHeartbeats 400000 in
theorem spec_ok (sp : Option Addr) (cap k m : Nat) (xs : List Int) (off first id : Int) (w : World)
    (hx : ∀ x ∈ xs, 0 ≤ x ∧ x ≤ 255) (h0 : 0 ≤ off) (h1 : off ≤ 65535) (hl : xs.length ≤ 1024)
    (hsrc : 0 < xs.length → ∃ ad, sp = some ad ∧ ad.block < w.heap.size ∧ ∀ j v, (xs.map (Value.int .u8))[j]? = some v → w.cell? (ad.add j) = some v)
    (hk : off % ((xs.length : Int) + 1) = k) (hk2 : k + 2 ≤ xs.length) (hn : xs[k + 1]? = some (m : Int)) (hid : xs[k]? = some id) (hlt : (m : Int) ≤ (xs.length : Int) - (k + 2)) :
    Calls Ybaf.prog 3 #[.slice sp xs.length cap, .int .u16 off, .int .i64 first] w fun e w' => e = .returned (.bool true) ∧ Below w.heap.size w w' := by
  have hn01 := hx m (List.mem_of_getElem? hn)
  obtain ⟨hn0, hn1⟩ := hn01
  have hwn : IntKind.i64.wrap m = m := by rw [IntKind.wrap_i64]; omega
  have hmk := run_make_row' (P := Ybaf.prog) 22 5 (.int .u8 0) 1 Ybaf.underlying22 Ybaf.info5' rfl .i64 .i64 xs.length (by omega) (by omega)
  obtain ⟨w1, hcp, hblk, hbel, hsz⟩ := copy_made sp cap xs w hsrc
  have hcn := cell_blk hblk hn
  have hci := cell_blk hblk hid
  have HALL : Hid (∀ j v, xs[j]? = some v → w1.cell? ⟨w.heap.size, j, none⟩ = some (.int .u8 v)) := fun j v h => cell_blk hblk h
  have hsz' : w.heap.size < w1.heap.size := by omega
  have HX : Hid (∀ x ∈ xs, 0 ≤ x ∧ x ≤ 255) := hx
  have HN : Hid (xs[k + 1]? = some (m : Int)) := hn
  clear hsrc hblk hsz hx hn hid
  have hnil := fun (wx : World) (a : Option Addr) (l c : Nat) => Lib.run_eql_slice_nil (P := Ybaf.prog) wx 22 5 a l c 0 0 Ybaf.underlying22
  go_enter Ybaf.func3, Ybaf.ntmps3
  go_wp2_with fail
  refine (par_ok w1.heap.size w.heap.size xs.length xs.length k m id _ ?_ ?_ ?_ ?_ ?_ ?_ ?_ ?_ (by omega) (Nat.le_refl _) (by omega) (by omega) (by omega) hn0 hn1 hlt).mono ?_
  · go_simp
  · go_simp
  · go_simp
  · go_simp
  · go_simp
  · simp; omega
  · omega
  · simp
  rintro e w2 ⟨o2, ho2, rfl, hg2, hoff⟩
  have HO : Hid ((0 : Int) < m → o2 = (k : Int).toNat + 2) := ho2
  clear ho2
  have hz2 : w1.heap.size < w2.heap.size := by have := hg2.size; simp at this; omega
  have hz3 : w.heap.size < w2.heap.size := by omega
  have hb2 := below_par hbel hg2
  have HC : Hid (∀ j v, xs[j]? = some v → w2.cell? ⟨w.heap.size, j, none⟩ = some (.int .u8 v)) := fun j v h => (hg2.cell_far ⟨w.heap.size, j, none⟩ (by simp; omega) (by simp; omega)).trans ((World.cell?_alloc_lt _ _ _ hsz').trans (HALL.out j v h))
  have hc2 : w2.cell? ⟨w.heap.size, k + 1, none⟩ = some (.int .u8 m) := (hg2.cell_far ⟨w.heap.size, k + 1, none⟩ (by simp; omega) (by simp; omega)).trans ((World.cell?_alloc_lt _ _ _ hsz').trans hcn)
  have hc3 : w2.cell? ⟨w.heap.size, k, none⟩ = some (.int .u8 id) := (hg2.cell_far ⟨w.heap.size, k, none⟩ (by simp; omega) (by simp; omega)).trans ((World.cell?_alloc_lt _ _ _ hsz').trans hci)
  rw [Int.toNat_natCast]
  go_wp2_with fail
  go_quiet (fail)
  go_wp2_with fail
  have hb3 : Below w.heap.size w ((w2.alloc (.cells #[.int .u8 id, .slice (some ⟨w.heap.size, o2, none⟩) m m] 30)).drewN nq) := below_drewN (hb2.alloc hb2.size _) _
  have hp3 : ((w2.alloc (.cells #[.int .u8 id, .slice (some ⟨w.heap.size, o2, none⟩) m m] 30)).drewN nq).cell? ⟨w2.heap.size, 1, none⟩ = some (.slice (some ⟨w.heap.size, o2, none⟩) m m) := by go_simp
  have HC3 : Hid (∀ j v, xs[j]? = some v → ((w2.alloc (.cells #[.int .u8 id, .slice (some ⟨w.heap.size, o2, none⟩) m m] 30)).drewN nq).cell? ⟨w.heap.size, j, none⟩ = some (.int .u8 v)) := fun j v h => (World.cell?_alloc_lt w2 _ _ hz3).trans (HC.out j v h)
  generalize (w2.alloc (.cells #[.int .u8 id, .slice (some ⟨w.heap.size, o2, none⟩) m m] 30)).drewN nq = w3 at *
  go_loopw [14] (fun i wr => ∃ j q : Nat, j ≤ m ∧ i = .int .i64 j ∧ wr = w3.drewN q) (fun i _ => m - (intOf i).toNat)
  case atStart => exact ⟨0, 0, Nat.zero_le _, rfl, rfl⟩
  case round =>
    obtain ⟨j, q, hj, rfl, rfl⟩ := hrel
    by_cases hjm : j < m
    · have ho := HO.out (by omega)
      have hlt2 : k + 2 + j < xs.length := by omega
      have hget : xs[k + 2 + j]? = some xs[k + 2 + j] := List.getElem?_eq_getElem hlt2
      have hcell := HC3.out _ _ hget
      generalize xs[k + 2 + j] = v at *
      clear hget
      rw [Int.toNat_natCast] at ho
      subst ho
      go_wp2_with fail
      go_quiet (fail)
      go_wp2_with fail
      go_roundw
      case rel => exact ⟨j + 1, _, by omega, by go_num, rfl⟩
      case measure => simp [intOf]; omega
    · have hjm' : j = m := by omega
      subst hjm'
      go_wp2_with fail
      go_ret
      exact ⟨rfl, below_drewN hb3 _⟩

end Go.Proofs.YbulkarmeFmt
