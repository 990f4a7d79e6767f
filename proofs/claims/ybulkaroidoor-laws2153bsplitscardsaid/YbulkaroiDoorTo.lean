import Derived.Test.YbulkaroiDoorRed
set_option linter.unusedVariables false
namespace Go.Proofs.YbulkaroiDoor
open Go.RowKit Go.Deep

/-- A pointer to a uint32, or nil: what it leads to; it lies below block B. -/
def OptU (w : World) (B : Nat) (v : Value) (o : Option Int) : Prop :=
  (o = none ∧ v = .pointer none) ∨ ∃ b x, o = some x ∧ v = .pointer (some ⟨b, 0, none⟩) ∧ w.cell? ⟨b, 0, none⟩ = some (.int .u32 x) ∧ b < B ∧ 0 ≤ x ∧ x < 4294967296

theorem OptU.later {w w' : World} {B : Nat} {v : Value} {o : Option Int} (h : OptU w B v o) (hb : Below B w w') : OptU w' B v o := by
  rcases h with h | ⟨b, x, h1, h2, h3, h4, h5⟩
  · exact .inl h
  · exact .inr ⟨b, x, h1, h2, (hb.cell (p := ⟨b, 0, none⟩) h4).trans h3, h4, h5⟩

theorem OptU.mono {w : World} {B B' : Nat} {v : Value} {o : Option Int} (h : OptU w B v o) (hb : B ≤ B') : OptU w B' v o := by
  rcases h with h | ⟨b, x, h1, h2, h3, h4, h5⟩
  · exact .inl h
  · exact .inr ⟨b, x, h1, h2, h3, by omega, h5⟩

def optA (g : Nat) : Option Int → List Avp
  | none => []
  | some x => [mk g (be32 x)]

theorem cells3 {w : World} {g : Nat} {a b c : Value} {t : TypeId} (hb : w.heap[g]? = some (.cells #[a, b, c] t (0, 0))) :
    w.cell? ⟨g, 0, none⟩ = some a ∧ w.cell? ⟨g, 1, none⟩ = some b ∧ w.cell? ⟨g, 2, none⟩ = some c := by
  simp [World.cell?, hb]
theorem cells2 {w : World} {g : Nat} {a b : Value} {t : TypeId} (hb : w.heap[g]? = some (.cells #[a, b] t (0, 0))) :
    w.cell? ⟨g, 0, none⟩ = some a ∧ w.cell? ⟨g, 1, none⟩ = some b := by
  simp [World.cell?, hb]
theorem heap_alloc_a (w : World) (o o' o'' : Obj) : (((w.alloc o).alloc o').alloc o'').heap[w.heap.size]? = some o := by
  rw [Below.heap_alloc _ _ _ (by simp; omega)]; exact heap_alloc_old2 w o o'
theorem heap_alloc_b (w : World) (o o' o'' : Obj) : (((w.alloc o).alloc o').alloc o'').heap[w.heap.size + 1]? = some o' := by
  rw [Below.heap_alloc _ _ _ (by simp)]; exact heap_alloc_new2 w o o'
theorem heap_alloc_c (w : World) (o o' o'' : Obj) : (((w.alloc o).alloc o').alloc o'').heap[w.heap.size + 1 + 1]? = some o'' := by
  have := heap_alloc_new ((w.alloc o).alloc o') o''
  simpa using this

set_option maxHeartbeats 1000000 in
theorem to_nn (base g1 g2 b1 b2 : Nat) (x1 x2 : Int) (v : Value) (ls : List Avp) (w : World) (hl : Lst w base v ls) (hbase : base ≤ w.heap.size) (hll : ls.length ≤ 1000) :
    Calls Ybad.prog 18 #[.agg #[.pointer none, .pointer none], v, .agg #[.int .u32 (gc g1), .int .u32 (gv g1), .bool (gm g1)], .agg #[.int .u32 (gc g2), .int .u32 (gv g2), .bool (gm g2)]] w fun e w' =>
      ∃ v', e = .returned v' ∧ Lst w' base v' (ls) ∧ Below base w w' := by
  have ne : ∀ k, w.heap.size ≤ k → v.ownBlock ≠ some k := fun k hk e => by have := (hl.lt e).2; omega
  have NE : Hid (∀ k, w.heap.size ≤ k → v.ownBlock ≠ some k) := ne
  clear ne
  have HA : Hid ((((w.alloc (.cells #[.pointer none, .pointer none] 56)).alloc (.cells #[.int .u32 (gc g1), .int .u32 (gv g1), .bool (gm g1)] 62)).alloc (.cells #[.int .u32 (gc g2), .int .u32 (gv g2), .bool (gm g2)] 62)).heap[w.heap.size]? = some (.cells #[.pointer none, .pointer none] 56)) := heap_alloc_a _ _ _ _
  have HB : Hid ((((w.alloc (.cells #[.pointer none, .pointer none] 56)).alloc (.cells #[.int .u32 (gc g1), .int .u32 (gv g1), .bool (gm g1)] 62)).alloc (.cells #[.int .u32 (gc g2), .int .u32 (gv g2), .bool (gm g2)] 62)).heap[w.heap.size + 1]? = some (.cells #[.int .u32 (gc g1), .int .u32 (gv g1), .bool (gm g1)] 62)) := heap_alloc_b _ _ _ _
  have HC : Hid ((((w.alloc (.cells #[.pointer none, .pointer none] 56)).alloc (.cells #[.int .u32 (gc g1), .int .u32 (gv g1), .bool (gm g1)] 62)).alloc (.cells #[.int .u32 (gc g2), .int .u32 (gv g2), .bool (gm g2)] 62)).heap[w.heap.size + 1 + 1]? = some (.cells #[.int .u32 (gc g2), .int .u32 (gv g2), .bool (gm g2)] 62)) := heap_alloc_c _ _ _ _
  have L0 := hl.later ((((Below.refl _ _).alloc (Nat.le_refl _) (.cells #[.pointer none, .pointer none] 56)).alloc (by simp) (.cells #[.int .u32 (gc g1), .int .u32 (gv g1), .bool (gm g1)] 62)).alloc (by simp; omega) (.cells #[.int .u32 (gc g2), .int .u32 (gv g2), .bool (gm g2)] 62))
  have B0 := (((Below.refl w.heap.size w).alloc (Nat.le_refl _) (.cells #[.pointer none, .pointer none] 56)).alloc (by simp) (.cells #[.int .u32 (gc g1), .int .u32 (gv g1), .bool (gm g1)] 62)).alloc (by simp; omega) (.cells #[.int .u32 (gc g2), .int .u32 (gv g2), .bool (gm g2)] 62)
  have hz0 : (((w.alloc (.cells #[.pointer none, .pointer none] 56)).alloc (.cells #[.int .u32 (gc g1), .int .u32 (gv g1), .bool (gm g1)] 62)).alloc (.cells #[.int .u32 (gc g2), .int .u32 (gv g2), .bool (gm g2)] 62)).heap.size = w.heap.size + 3 := by simp
  have HZ0 : Hid ((((w.alloc (.cells #[.pointer none, .pointer none] 56)).alloc (.cells #[.int .u32 (gc g1), .int .u32 (gv g1), .bool (gm g1)] 62)).alloc (.cells #[.int .u32 (gc g2), .int .u32 (gv g2), .bool (gm g2)] 62)).heap.size = w.heap.size + 3) := hz0
  clear hz0
  go_enter Ybad.func18, Ybad.ntmps18
  go_wp2_with fail
  generalize (((w.alloc (.cells #[.pointer none, .pointer none] 56)).alloc (.cells #[.int .u32 (gc g1), .int .u32 (gv g1), .bool (gm g1)] 62)).alloc (.cells #[.int .u32 (gc g2), .int .u32 (gv g2), .bool (gm g2)] 62)) = w0 at *
  have hzz := HZ0.out
  have hbase' : base ≤ w.heap.size := hbase
  have B0b := B0.mono hbase
  have n0 := NE.out w.heap.size (Nat.le_refl _)
  have n1 := NE.out (w.heap.size + 1) (by omega)
  have n2 := NE.out (w.heap.size + 1 + 1) (by omega)
  have N0 : Hid (v.ownBlock ≠ some w.heap.size ∧ v.ownBlock ≠ some (w.heap.size + 1) ∧ v.ownBlock ≠ some (w.heap.size + 1 + 1)) := ⟨n0, n1, n2⟩
  clear n0 n1 n2
  obtain ⟨q0a0, q0a1⟩ := cells2 HA.out
  obtain ⟨q0b0, q0b1, q0b2⟩ := cells3 HB.out
  obtain ⟨q0c0, q0c1, q0c2⟩ := cells3 HC.out
  go_wp2_with fail
  go_ret
  exact ⟨_, rfl, L0, B0b⟩

set_option maxHeartbeats 1000000 in
theorem to_yn (base g1 g2 b1 b2 : Nat) (x1 x2 : Int) (v : Value) (ls : List Avp) (w : World) (hl : Lst w base v ls) (hbase : base ≤ w.heap.size) (hll : ls.length ≤ 1000) (hc1 : w.cell? ⟨b1, 0, none⟩ = some (.int .u32 x1)) (hb1 : b1 < base) (hx1 : 0 ≤ x1) (hx1' : x1 < 4294967296) :
    Calls Ybad.prog 18 #[.agg #[.pointer (some ⟨b1, 0, none⟩), .pointer none], v, .agg #[.int .u32 (gc g1), .int .u32 (gv g1), .bool (gm g1)], .agg #[.int .u32 (gc g2), .int .u32 (gv g2), .bool (gm g2)]] w fun e w' =>
      ∃ v', e = .returned v' ∧ Lst w' base v' (ls ++ [mk g1 (be32 x1)]) ∧ Below base w w' := by
  have ne : ∀ k, w.heap.size ≤ k → v.ownBlock ≠ some k := fun k hk e => by have := (hl.lt e).2; omega
  have NE : Hid (∀ k, w.heap.size ≤ k → v.ownBlock ≠ some k) := ne
  clear ne
  have hbw1 : b1 < w.heap.size := by omega
  have HA : Hid ((((w.alloc (.cells #[.pointer (some ⟨b1, 0, none⟩), .pointer none] 56)).alloc (.cells #[.int .u32 (gc g1), .int .u32 (gv g1), .bool (gm g1)] 62)).alloc (.cells #[.int .u32 (gc g2), .int .u32 (gv g2), .bool (gm g2)] 62)).heap[w.heap.size]? = some (.cells #[.pointer (some ⟨b1, 0, none⟩), .pointer none] 56)) := heap_alloc_a _ _ _ _
  have HB : Hid ((((w.alloc (.cells #[.pointer (some ⟨b1, 0, none⟩), .pointer none] 56)).alloc (.cells #[.int .u32 (gc g1), .int .u32 (gv g1), .bool (gm g1)] 62)).alloc (.cells #[.int .u32 (gc g2), .int .u32 (gv g2), .bool (gm g2)] 62)).heap[w.heap.size + 1]? = some (.cells #[.int .u32 (gc g1), .int .u32 (gv g1), .bool (gm g1)] 62)) := heap_alloc_b _ _ _ _
  have HC : Hid ((((w.alloc (.cells #[.pointer (some ⟨b1, 0, none⟩), .pointer none] 56)).alloc (.cells #[.int .u32 (gc g1), .int .u32 (gv g1), .bool (gm g1)] 62)).alloc (.cells #[.int .u32 (gc g2), .int .u32 (gv g2), .bool (gm g2)] 62)).heap[w.heap.size + 1 + 1]? = some (.cells #[.int .u32 (gc g2), .int .u32 (gv g2), .bool (gm g2)] 62)) := heap_alloc_c _ _ _ _
  have L0 := hl.later ((((Below.refl _ _).alloc (Nat.le_refl _) (.cells #[.pointer (some ⟨b1, 0, none⟩), .pointer none] 56)).alloc (by simp) (.cells #[.int .u32 (gc g1), .int .u32 (gv g1), .bool (gm g1)] 62)).alloc (by simp; omega) (.cells #[.int .u32 (gc g2), .int .u32 (gv g2), .bool (gm g2)] 62))
  have B0 := (((Below.refl w.heap.size w).alloc (Nat.le_refl _) (.cells #[.pointer (some ⟨b1, 0, none⟩), .pointer none] 56)).alloc (by simp) (.cells #[.int .u32 (gc g1), .int .u32 (gv g1), .bool (gm g1)] 62)).alloc (by simp; omega) (.cells #[.int .u32 (gc g2), .int .u32 (gv g2), .bool (gm g2)] 62)
  have hz0 : (((w.alloc (.cells #[.pointer (some ⟨b1, 0, none⟩), .pointer none] 56)).alloc (.cells #[.int .u32 (gc g1), .int .u32 (gv g1), .bool (gm g1)] 62)).alloc (.cells #[.int .u32 (gc g2), .int .u32 (gv g2), .bool (gm g2)] 62)).heap.size = w.heap.size + 3 := by simp
  have HZ0 : Hid ((((w.alloc (.cells #[.pointer (some ⟨b1, 0, none⟩), .pointer none] 56)).alloc (.cells #[.int .u32 (gc g1), .int .u32 (gv g1), .bool (gm g1)] 62)).alloc (.cells #[.int .u32 (gc g2), .int .u32 (gv g2), .bool (gm g2)] 62)).heap.size = w.heap.size + 3) := hz0
  clear hz0
  go_enter Ybad.func18, Ybad.ntmps18
  go_wp2_with fail
  generalize (((w.alloc (.cells #[.pointer (some ⟨b1, 0, none⟩), .pointer none] 56)).alloc (.cells #[.int .u32 (gc g1), .int .u32 (gv g1), .bool (gm g1)] 62)).alloc (.cells #[.int .u32 (gc g2), .int .u32 (gv g2), .bool (gm g2)] 62)) = w0 at *
  have hzz := HZ0.out
  have hbase' : base ≤ w.heap.size := hbase
  have B0b := B0.mono hbase
  have n0 := NE.out w.heap.size (Nat.le_refl _)
  have n1 := NE.out (w.heap.size + 1) (by omega)
  have n2 := NE.out (w.heap.size + 1 + 1) (by omega)
  have N0 : Hid (v.ownBlock ≠ some w.heap.size ∧ v.ownBlock ≠ some (w.heap.size + 1) ∧ v.ownBlock ≠ some (w.heap.size + 1 + 1)) := ⟨n0, n1, n2⟩
  clear n0 n1 n2
  obtain ⟨q0a0, q0a1⟩ := cells2 HA.out
  obtain ⟨q0b0, q0b1, q0b2⟩ := cells3 HB.out
  obtain ⟨q0c0, q0c1, q0c2⟩ := cells3 HC.out
  have q0u := (B0b.cell (p := ⟨b1, 0, none⟩) hb1).trans hc1
  go_wp2_with fail
  go_region_held3 (fun w' => w'.cell? ⟨w.heap.size + 1, 0, none⟩ = some (.int .u32 (gc g1)) ∧ w'.cell? ⟨w.heap.size + 1, 1, none⟩ = some (.int .u32 (gv g1)) ∧ w'.cell? ⟨w.heap.size + 1, 2, none⟩ = some (.bool (gm g1)) ∧ w'.cell? ⟨w.heap.size, 0, none⟩ = some (.pointer (some ⟨b1, 0, none⟩)) ∧ w'.cell? ⟨b1, 0, none⟩ = some (.int .u32 x1)) (go_keep)
    (first
      | (go_at_call 17; (with_reducible refine (unsigned32_gave g1 x1 _ hx1 hx1').mono ?_); rintro e wA1 ⟨pA1, kA1, rfl, hpA1, hbelA1, hsA1⟩; have DA1 : Below w0.heap.size w0 wA1 := (Below.refl _ _).drew.trans hbelA1; have LA1 := L0.later DA1; have BA1 := B0b.trans (DA1.mono (by omega)); have qA1 := cells3 ((DA1.block _ (heap_lt HB.out)).trans HB.out); obtain ⟨qA1a, qA1b, qA1c⟩ := qA1; have qB1 := cells2 ((DA1.block _ (heap_lt HA.out)).trans HA.out); obtain ⟨qB1a, qB1b⟩ := qB1; have qC1 := (BA1.cell (p := ⟨b1, 0, none⟩) hb1).trans hc1)
      | (refine step_append_avps ?_ (.tmp 12) (.tmp 19) ?_ base v (ls) ?_ (LA1.later ((Below.refl _ _).alloc (Nat.le_refl _) _)) ⟨wA1.heap.size, 0, none⟩ 1 1 [⟨mk g1 (be32 x1), pA1, kA1⟩] ?_ ?_ (news_of_alloc wA1 [⟨mk g1 (be32 x1), pA1, kA1⟩] _ _ rfl rfl) ?_ ?_ ?_ ?_; rfl; rfl; rfl; rfl; rfl; (intro r hr; simp at hr; subst hr; exact ⟨hpA1, hsA1.later ((Below.refl _ _).alloc (Nat.le_refl _) _)⟩); (omega); (have h8 := BA1.size; have h9 := World.size_alloc wA1; simp; omega); intro v1 w1 gA1; have EA1 := (DA1.alloc DA1.size (.cells #[.int .u32 (mk g1 (be32 x1)).c, .int .u8 (mk g1 (be32 x1)).f, .int .u32 (mk g1 (be32 x1)).v, .slice pA1 (mk g1 (be32 x1)).d.length kA1] 29)); have kA := gA1.keep ((EA1.block _ (heap_lt HA.out)).trans HA.out) N0.out.1; have kB := gA1.keep ((EA1.block _ (heap_lt HB.out)).trans HB.out) N0.out.2.1; have kC := gA1.keep ((EA1.block _ (heap_lt HC.out)).trans HC.out) N0.out.2.2; have HA1 : Hid (_ = _) := kA.1; have HB1 : Hid (_ = _) := kB.1; have HC1 : Hid (_ = _) := kC.1; have N1 : Hid (_ ∧ _ ∧ _) := ⟨kA.2, kB.2, kC.2⟩; clear kA kB kC; have B1b := (BA1.alloc (Nat.le_trans hbase' BA1.size) _).trans (gA1.below (LA1.later ((Below.refl _ _).alloc (Nat.le_refl _) _)) (by have h8 := BA1.size; simp; omega)); obtain ⟨q1a0, q1a1⟩ := cells2 HA1.out; obtain ⟨q1b0, q1b1, q1b2⟩ := cells3 HB1.out; obtain ⟨q1c0, q1c1, q1c2⟩ := cells3 HC1.out; have q1u := (B1b.cell (p := ⟨b1, 0, none⟩) hb1).trans hc1))
  have L1 := gA1.lst
  go_wp2_with fail
  go_ret
  exact ⟨_, rfl, L1, B1b⟩

set_option maxHeartbeats 1000000 in
theorem to_ny (base g1 g2 b1 b2 : Nat) (x1 x2 : Int) (v : Value) (ls : List Avp) (w : World) (hl : Lst w base v ls) (hbase : base ≤ w.heap.size) (hll : ls.length ≤ 1000) (hc2 : w.cell? ⟨b2, 0, none⟩ = some (.int .u32 x2)) (hb2 : b2 < base) (hx2 : 0 ≤ x2) (hx2' : x2 < 4294967296) :
    Calls Ybad.prog 18 #[.agg #[.pointer none, .pointer (some ⟨b2, 0, none⟩)], v, .agg #[.int .u32 (gc g1), .int .u32 (gv g1), .bool (gm g1)], .agg #[.int .u32 (gc g2), .int .u32 (gv g2), .bool (gm g2)]] w fun e w' =>
      ∃ v', e = .returned v' ∧ Lst w' base v' (ls ++ [mk g2 (be32 x2)]) ∧ Below base w w' := by
  have ne : ∀ k, w.heap.size ≤ k → v.ownBlock ≠ some k := fun k hk e => by have := (hl.lt e).2; omega
  have NE : Hid (∀ k, w.heap.size ≤ k → v.ownBlock ≠ some k) := ne
  clear ne
  have hbw2 : b2 < w.heap.size := by omega
  have HA : Hid ((((w.alloc (.cells #[.pointer none, .pointer (some ⟨b2, 0, none⟩)] 56)).alloc (.cells #[.int .u32 (gc g1), .int .u32 (gv g1), .bool (gm g1)] 62)).alloc (.cells #[.int .u32 (gc g2), .int .u32 (gv g2), .bool (gm g2)] 62)).heap[w.heap.size]? = some (.cells #[.pointer none, .pointer (some ⟨b2, 0, none⟩)] 56)) := heap_alloc_a _ _ _ _
  have HB : Hid ((((w.alloc (.cells #[.pointer none, .pointer (some ⟨b2, 0, none⟩)] 56)).alloc (.cells #[.int .u32 (gc g1), .int .u32 (gv g1), .bool (gm g1)] 62)).alloc (.cells #[.int .u32 (gc g2), .int .u32 (gv g2), .bool (gm g2)] 62)).heap[w.heap.size + 1]? = some (.cells #[.int .u32 (gc g1), .int .u32 (gv g1), .bool (gm g1)] 62)) := heap_alloc_b _ _ _ _
  have HC : Hid ((((w.alloc (.cells #[.pointer none, .pointer (some ⟨b2, 0, none⟩)] 56)).alloc (.cells #[.int .u32 (gc g1), .int .u32 (gv g1), .bool (gm g1)] 62)).alloc (.cells #[.int .u32 (gc g2), .int .u32 (gv g2), .bool (gm g2)] 62)).heap[w.heap.size + 1 + 1]? = some (.cells #[.int .u32 (gc g2), .int .u32 (gv g2), .bool (gm g2)] 62)) := heap_alloc_c _ _ _ _
  have L0 := hl.later ((((Below.refl _ _).alloc (Nat.le_refl _) (.cells #[.pointer none, .pointer (some ⟨b2, 0, none⟩)] 56)).alloc (by simp) (.cells #[.int .u32 (gc g1), .int .u32 (gv g1), .bool (gm g1)] 62)).alloc (by simp; omega) (.cells #[.int .u32 (gc g2), .int .u32 (gv g2), .bool (gm g2)] 62))
  have B0 := (((Below.refl w.heap.size w).alloc (Nat.le_refl _) (.cells #[.pointer none, .pointer (some ⟨b2, 0, none⟩)] 56)).alloc (by simp) (.cells #[.int .u32 (gc g1), .int .u32 (gv g1), .bool (gm g1)] 62)).alloc (by simp; omega) (.cells #[.int .u32 (gc g2), .int .u32 (gv g2), .bool (gm g2)] 62)
  have hz0 : (((w.alloc (.cells #[.pointer none, .pointer (some ⟨b2, 0, none⟩)] 56)).alloc (.cells #[.int .u32 (gc g1), .int .u32 (gv g1), .bool (gm g1)] 62)).alloc (.cells #[.int .u32 (gc g2), .int .u32 (gv g2), .bool (gm g2)] 62)).heap.size = w.heap.size + 3 := by simp
  have HZ0 : Hid ((((w.alloc (.cells #[.pointer none, .pointer (some ⟨b2, 0, none⟩)] 56)).alloc (.cells #[.int .u32 (gc g1), .int .u32 (gv g1), .bool (gm g1)] 62)).alloc (.cells #[.int .u32 (gc g2), .int .u32 (gv g2), .bool (gm g2)] 62)).heap.size = w.heap.size + 3) := hz0
  clear hz0
  go_enter Ybad.func18, Ybad.ntmps18
  go_wp2_with fail
  generalize (((w.alloc (.cells #[.pointer none, .pointer (some ⟨b2, 0, none⟩)] 56)).alloc (.cells #[.int .u32 (gc g1), .int .u32 (gv g1), .bool (gm g1)] 62)).alloc (.cells #[.int .u32 (gc g2), .int .u32 (gv g2), .bool (gm g2)] 62)) = w0 at *
  have hzz := HZ0.out
  have hbase' : base ≤ w.heap.size := hbase
  have B0b := B0.mono hbase
  have n0 := NE.out w.heap.size (Nat.le_refl _)
  have n1 := NE.out (w.heap.size + 1) (by omega)
  have n2 := NE.out (w.heap.size + 1 + 1) (by omega)
  have N0 : Hid (v.ownBlock ≠ some w.heap.size ∧ v.ownBlock ≠ some (w.heap.size + 1) ∧ v.ownBlock ≠ some (w.heap.size + 1 + 1)) := ⟨n0, n1, n2⟩
  clear n0 n1 n2
  obtain ⟨q0a0, q0a1⟩ := cells2 HA.out
  obtain ⟨q0b0, q0b1, q0b2⟩ := cells3 HB.out
  obtain ⟨q0c0, q0c1, q0c2⟩ := cells3 HC.out
  have q0d := (B0b.cell (p := ⟨b2, 0, none⟩) hb2).trans hc2
  go_wp2_with fail
  go_region_held3 (fun w' => w'.cell? ⟨w.heap.size + 1 + 1, 0, none⟩ = some (.int .u32 (gc g2)) ∧ w'.cell? ⟨w.heap.size + 1 + 1, 1, none⟩ = some (.int .u32 (gv g2)) ∧ w'.cell? ⟨w.heap.size + 1 + 1, 2, none⟩ = some (.bool (gm g2)) ∧ w'.cell? ⟨w.heap.size, 1, none⟩ = some (.pointer (some ⟨b2, 0, none⟩)) ∧ w'.cell? ⟨b2, 0, none⟩ = some (.int .u32 x2)) (go_keep)
    (first
      | (go_at_call 17; (with_reducible refine (unsigned32_gave g2 x2 _ hx2 hx2').mono ?_); rintro e wA2 ⟨pA2, kA2, rfl, hpA2, hbelA2, hsA2⟩; have DA2 : Below w0.heap.size w0 wA2 := (Below.refl _ _).drew.trans hbelA2; have LA2 := L0.later DA2; have BA2 := B0b.trans (DA2.mono (by omega)); have qA2 := cells3 ((DA2.block _ (heap_lt HC.out)).trans HC.out); obtain ⟨qA2a, qA2b, qA2c⟩ := qA2; have qB2 := cells2 ((DA2.block _ (heap_lt HA.out)).trans HA.out); obtain ⟨qB2a, qB2b⟩ := qB2; have qC2 := (BA2.cell (p := ⟨b2, 0, none⟩) hb2).trans hc2)
      | (refine step_append_avps ?_ (.tmp 24) (.tmp 31) ?_ base v (ls) ?_ (LA2.later ((Below.refl _ _).alloc (Nat.le_refl _) _)) ⟨wA2.heap.size, 0, none⟩ 1 1 [⟨mk g2 (be32 x2), pA2, kA2⟩] ?_ ?_ (news_of_alloc wA2 [⟨mk g2 (be32 x2), pA2, kA2⟩] _ _ rfl rfl) ?_ ?_ ?_ ?_; rfl; rfl; rfl; rfl; rfl; (intro r hr; simp at hr; subst hr; exact ⟨hpA2, hsA2.later ((Below.refl _ _).alloc (Nat.le_refl _) _)⟩); (omega); (have h8 := BA2.size; have h9 := World.size_alloc wA2; simp; omega); intro v2 w2 gA2; have EA2 := (DA2.alloc DA2.size (.cells #[.int .u32 (mk g2 (be32 x2)).c, .int .u8 (mk g2 (be32 x2)).f, .int .u32 (mk g2 (be32 x2)).v, .slice pA2 (mk g2 (be32 x2)).d.length kA2] 29)); have kA := gA2.keep ((EA2.block _ (heap_lt HA.out)).trans HA.out) N0.out.1; have kB := gA2.keep ((EA2.block _ (heap_lt HB.out)).trans HB.out) N0.out.2.1; have kC := gA2.keep ((EA2.block _ (heap_lt HC.out)).trans HC.out) N0.out.2.2; have HA2 : Hid (_ = _) := kA.1; have HB2 : Hid (_ = _) := kB.1; have HC2 : Hid (_ = _) := kC.1; have N2 : Hid (_ ∧ _ ∧ _) := ⟨kA.2, kB.2, kC.2⟩; clear kA kB kC; have B2b := (BA2.alloc (Nat.le_trans hbase' BA2.size) _).trans (gA2.below (LA2.later ((Below.refl _ _).alloc (Nat.le_refl _) _)) (by have h8 := BA2.size; simp; omega)); obtain ⟨q2a0, q2a1⟩ := cells2 HA2.out; obtain ⟨q2b0, q2b1, q2b2⟩ := cells3 HB2.out; obtain ⟨q2c0, q2c1, q2c2⟩ := cells3 HC2.out; have q2d := (B2b.cell (p := ⟨b2, 0, none⟩) hb2).trans hc2))
  have L2 := gA2.lst
  go_wp2_with fail
  go_ret
  exact ⟨_, rfl, L2, B2b⟩

set_option maxHeartbeats 1000000 in
theorem to_yy (base g1 g2 b1 b2 : Nat) (x1 x2 : Int) (v : Value) (ls : List Avp) (w : World) (hl : Lst w base v ls) (hbase : base ≤ w.heap.size) (hll : ls.length ≤ 1000) (hc1 : w.cell? ⟨b1, 0, none⟩ = some (.int .u32 x1)) (hb1 : b1 < base) (hx1 : 0 ≤ x1) (hx1' : x1 < 4294967296) (hc2 : w.cell? ⟨b2, 0, none⟩ = some (.int .u32 x2)) (hb2 : b2 < base) (hx2 : 0 ≤ x2) (hx2' : x2 < 4294967296) :
    Calls Ybad.prog 18 #[.agg #[.pointer (some ⟨b1, 0, none⟩), .pointer (some ⟨b2, 0, none⟩)], v, .agg #[.int .u32 (gc g1), .int .u32 (gv g1), .bool (gm g1)], .agg #[.int .u32 (gc g2), .int .u32 (gv g2), .bool (gm g2)]] w fun e w' =>
      ∃ v', e = .returned v' ∧ Lst w' base v' (ls ++ [mk g1 (be32 x1)] ++ [mk g2 (be32 x2)]) ∧ Below base w w' := by
  have ne : ∀ k, w.heap.size ≤ k → v.ownBlock ≠ some k := fun k hk e => by have := (hl.lt e).2; omega
  have NE : Hid (∀ k, w.heap.size ≤ k → v.ownBlock ≠ some k) := ne
  clear ne
  have hbw1 : b1 < w.heap.size := by omega
  have hbw2 : b2 < w.heap.size := by omega
  have HA : Hid ((((w.alloc (.cells #[.pointer (some ⟨b1, 0, none⟩), .pointer (some ⟨b2, 0, none⟩)] 56)).alloc (.cells #[.int .u32 (gc g1), .int .u32 (gv g1), .bool (gm g1)] 62)).alloc (.cells #[.int .u32 (gc g2), .int .u32 (gv g2), .bool (gm g2)] 62)).heap[w.heap.size]? = some (.cells #[.pointer (some ⟨b1, 0, none⟩), .pointer (some ⟨b2, 0, none⟩)] 56)) := heap_alloc_a _ _ _ _
  have HB : Hid ((((w.alloc (.cells #[.pointer (some ⟨b1, 0, none⟩), .pointer (some ⟨b2, 0, none⟩)] 56)).alloc (.cells #[.int .u32 (gc g1), .int .u32 (gv g1), .bool (gm g1)] 62)).alloc (.cells #[.int .u32 (gc g2), .int .u32 (gv g2), .bool (gm g2)] 62)).heap[w.heap.size + 1]? = some (.cells #[.int .u32 (gc g1), .int .u32 (gv g1), .bool (gm g1)] 62)) := heap_alloc_b _ _ _ _
  have HC : Hid ((((w.alloc (.cells #[.pointer (some ⟨b1, 0, none⟩), .pointer (some ⟨b2, 0, none⟩)] 56)).alloc (.cells #[.int .u32 (gc g1), .int .u32 (gv g1), .bool (gm g1)] 62)).alloc (.cells #[.int .u32 (gc g2), .int .u32 (gv g2), .bool (gm g2)] 62)).heap[w.heap.size + 1 + 1]? = some (.cells #[.int .u32 (gc g2), .int .u32 (gv g2), .bool (gm g2)] 62)) := heap_alloc_c _ _ _ _
  have L0 := hl.later ((((Below.refl _ _).alloc (Nat.le_refl _) (.cells #[.pointer (some ⟨b1, 0, none⟩), .pointer (some ⟨b2, 0, none⟩)] 56)).alloc (by simp) (.cells #[.int .u32 (gc g1), .int .u32 (gv g1), .bool (gm g1)] 62)).alloc (by simp; omega) (.cells #[.int .u32 (gc g2), .int .u32 (gv g2), .bool (gm g2)] 62))
  have B0 := (((Below.refl w.heap.size w).alloc (Nat.le_refl _) (.cells #[.pointer (some ⟨b1, 0, none⟩), .pointer (some ⟨b2, 0, none⟩)] 56)).alloc (by simp) (.cells #[.int .u32 (gc g1), .int .u32 (gv g1), .bool (gm g1)] 62)).alloc (by simp; omega) (.cells #[.int .u32 (gc g2), .int .u32 (gv g2), .bool (gm g2)] 62)
  have hz0 : (((w.alloc (.cells #[.pointer (some ⟨b1, 0, none⟩), .pointer (some ⟨b2, 0, none⟩)] 56)).alloc (.cells #[.int .u32 (gc g1), .int .u32 (gv g1), .bool (gm g1)] 62)).alloc (.cells #[.int .u32 (gc g2), .int .u32 (gv g2), .bool (gm g2)] 62)).heap.size = w.heap.size + 3 := by simp
  have HZ0 : Hid ((((w.alloc (.cells #[.pointer (some ⟨b1, 0, none⟩), .pointer (some ⟨b2, 0, none⟩)] 56)).alloc (.cells #[.int .u32 (gc g1), .int .u32 (gv g1), .bool (gm g1)] 62)).alloc (.cells #[.int .u32 (gc g2), .int .u32 (gv g2), .bool (gm g2)] 62)).heap.size = w.heap.size + 3) := hz0
  clear hz0
  go_enter Ybad.func18, Ybad.ntmps18
  go_wp2_with fail
  generalize (((w.alloc (.cells #[.pointer (some ⟨b1, 0, none⟩), .pointer (some ⟨b2, 0, none⟩)] 56)).alloc (.cells #[.int .u32 (gc g1), .int .u32 (gv g1), .bool (gm g1)] 62)).alloc (.cells #[.int .u32 (gc g2), .int .u32 (gv g2), .bool (gm g2)] 62)) = w0 at *
  have hzz := HZ0.out
  have hbase' : base ≤ w.heap.size := hbase
  have B0b := B0.mono hbase
  have n0 := NE.out w.heap.size (Nat.le_refl _)
  have n1 := NE.out (w.heap.size + 1) (by omega)
  have n2 := NE.out (w.heap.size + 1 + 1) (by omega)
  have N0 : Hid (v.ownBlock ≠ some w.heap.size ∧ v.ownBlock ≠ some (w.heap.size + 1) ∧ v.ownBlock ≠ some (w.heap.size + 1 + 1)) := ⟨n0, n1, n2⟩
  clear n0 n1 n2
  obtain ⟨q0a0, q0a1⟩ := cells2 HA.out
  obtain ⟨q0b0, q0b1, q0b2⟩ := cells3 HB.out
  obtain ⟨q0c0, q0c1, q0c2⟩ := cells3 HC.out
  have q0u := (B0b.cell (p := ⟨b1, 0, none⟩) hb1).trans hc1
  have q0d := (B0b.cell (p := ⟨b2, 0, none⟩) hb2).trans hc2
  go_wp2_with fail
  go_region_held3 (fun w' => w'.cell? ⟨w.heap.size + 1, 0, none⟩ = some (.int .u32 (gc g1)) ∧ w'.cell? ⟨w.heap.size + 1, 1, none⟩ = some (.int .u32 (gv g1)) ∧ w'.cell? ⟨w.heap.size + 1, 2, none⟩ = some (.bool (gm g1)) ∧ w'.cell? ⟨w.heap.size, 0, none⟩ = some (.pointer (some ⟨b1, 0, none⟩)) ∧ w'.cell? ⟨b1, 0, none⟩ = some (.int .u32 x1)) (go_keep)
    (first
      | (go_at_call 17; (with_reducible refine (unsigned32_gave g1 x1 _ hx1 hx1').mono ?_); rintro e wA1 ⟨pA1, kA1, rfl, hpA1, hbelA1, hsA1⟩; have DA1 : Below w0.heap.size w0 wA1 := (Below.refl _ _).drew.trans hbelA1; have LA1 := L0.later DA1; have BA1 := B0b.trans (DA1.mono (by omega)); have qA1 := cells3 ((DA1.block _ (heap_lt HB.out)).trans HB.out); obtain ⟨qA1a, qA1b, qA1c⟩ := qA1; have qB1 := cells2 ((DA1.block _ (heap_lt HA.out)).trans HA.out); obtain ⟨qB1a, qB1b⟩ := qB1; have qC1 := (BA1.cell (p := ⟨b1, 0, none⟩) hb1).trans hc1)
      | (refine step_append_avps ?_ (.tmp 12) (.tmp 19) ?_ base v (ls) ?_ (LA1.later ((Below.refl _ _).alloc (Nat.le_refl _) _)) ⟨wA1.heap.size, 0, none⟩ 1 1 [⟨mk g1 (be32 x1), pA1, kA1⟩] ?_ ?_ (news_of_alloc wA1 [⟨mk g1 (be32 x1), pA1, kA1⟩] _ _ rfl rfl) ?_ ?_ ?_ ?_; rfl; rfl; rfl; rfl; rfl; (intro r hr; simp at hr; subst hr; exact ⟨hpA1, hsA1.later ((Below.refl _ _).alloc (Nat.le_refl _) _)⟩); (omega); (have h8 := BA1.size; have h9 := World.size_alloc wA1; simp; omega); intro v1 w1 gA1; have EA1 := (DA1.alloc DA1.size (.cells #[.int .u32 (mk g1 (be32 x1)).c, .int .u8 (mk g1 (be32 x1)).f, .int .u32 (mk g1 (be32 x1)).v, .slice pA1 (mk g1 (be32 x1)).d.length kA1] 29)); have kA := gA1.keep ((EA1.block _ (heap_lt HA.out)).trans HA.out) N0.out.1; have kB := gA1.keep ((EA1.block _ (heap_lt HB.out)).trans HB.out) N0.out.2.1; have kC := gA1.keep ((EA1.block _ (heap_lt HC.out)).trans HC.out) N0.out.2.2; have HA1 : Hid (_ = _) := kA.1; have HB1 : Hid (_ = _) := kB.1; have HC1 : Hid (_ = _) := kC.1; have N1 : Hid (_ ∧ _ ∧ _) := ⟨kA.2, kB.2, kC.2⟩; clear kA kB kC; have B1b := (BA1.alloc (Nat.le_trans hbase' BA1.size) _).trans (gA1.below (LA1.later ((Below.refl _ _).alloc (Nat.le_refl _) _)) (by have h8 := BA1.size; simp; omega)); obtain ⟨q1a0, q1a1⟩ := cells2 HA1.out; obtain ⟨q1b0, q1b1, q1b2⟩ := cells3 HB1.out; obtain ⟨q1c0, q1c1, q1c2⟩ := cells3 HC1.out; have q1u := (B1b.cell (p := ⟨b1, 0, none⟩) hb1).trans hc1; have q1d := (B1b.cell (p := ⟨b2, 0, none⟩) hb2).trans hc2))
  have L1 := gA1.lst
  go_wp2_with fail
  go_region_held3 (fun w' => w'.cell? ⟨w.heap.size + 1 + 1, 0, none⟩ = some (.int .u32 (gc g2)) ∧ w'.cell? ⟨w.heap.size + 1 + 1, 1, none⟩ = some (.int .u32 (gv g2)) ∧ w'.cell? ⟨w.heap.size + 1 + 1, 2, none⟩ = some (.bool (gm g2)) ∧ w'.cell? ⟨w.heap.size, 1, none⟩ = some (.pointer (some ⟨b2, 0, none⟩)) ∧ w'.cell? ⟨b2, 0, none⟩ = some (.int .u32 x2)) (go_keep)
    (first
      | (go_at_call 17; (with_reducible refine (unsigned32_gave g2 x2 _ hx2 hx2').mono ?_); rintro e wA2 ⟨pA2, kA2, rfl, hpA2, hbelA2, hsA2⟩; have DA2 : Below w1.heap.size w1 wA2 := (Below.refl _ _).drew.trans hbelA2; have LA2 := L1.later DA2; have BA2 := B1b.trans (DA2.mono (Nat.le_trans hbase' B1b.size)); have qA2 := cells3 ((DA2.block _ (heap_lt HC1.out)).trans HC1.out); obtain ⟨qA2a, qA2b, qA2c⟩ := qA2; have qB2 := cells2 ((DA2.block _ (heap_lt HA1.out)).trans HA1.out); obtain ⟨qB2a, qB2b⟩ := qB2; have qC2 := (BA2.cell (p := ⟨b2, 0, none⟩) hb2).trans hc2)
      | (refine step_append_avps ?_ (.tmp 24) (.tmp 31) ?_ base v1 (ls ++ [mk g1 (be32 x1)]) ?_ (LA2.later ((Below.refl _ _).alloc (Nat.le_refl _) _)) ⟨wA2.heap.size, 0, none⟩ 1 1 [⟨mk g2 (be32 x2), pA2, kA2⟩] ?_ ?_ (news_of_alloc wA2 [⟨mk g2 (be32 x2), pA2, kA2⟩] _ _ rfl rfl) ?_ ?_ ?_ ?_; rfl; rfl; rfl; rfl; rfl; (intro r hr; simp at hr; subst hr; exact ⟨hpA2, hsA2.later ((Below.refl _ _).alloc (Nat.le_refl _) _)⟩); (simp; omega); (have h8 := BA2.size; have h9 := World.size_alloc wA2; simp; omega); intro v2 w2 gA2; have EA2 := (DA2.alloc DA2.size (.cells #[.int .u32 (mk g2 (be32 x2)).c, .int .u8 (mk g2 (be32 x2)).f, .int .u32 (mk g2 (be32 x2)).v, .slice pA2 (mk g2 (be32 x2)).d.length kA2] 29)); have kA := gA2.keep ((EA2.block _ (heap_lt HA1.out)).trans HA1.out) N1.out.1; have kB := gA2.keep ((EA2.block _ (heap_lt HB1.out)).trans HB1.out) N1.out.2.1; have kC := gA2.keep ((EA2.block _ (heap_lt HC1.out)).trans HC1.out) N1.out.2.2; have HA2 : Hid (_ = _) := kA.1; have HB2 : Hid (_ = _) := kB.1; have HC2 : Hid (_ = _) := kC.1; have N2 : Hid (_ ∧ _ ∧ _) := ⟨kA.2, kB.2, kC.2⟩; clear kA kB kC; have B2b := (BA2.alloc (Nat.le_trans hbase' BA2.size) _).trans (gA2.below (LA2.later ((Below.refl _ _).alloc (Nat.le_refl _) _)) (by have h8 := BA2.size; simp; omega)); obtain ⟨q2a0, q2a1⟩ := cells2 HA2.out; obtain ⟨q2b0, q2b1, q2b2⟩ := cells3 HB2.out; obtain ⟨q2c0, q2c1, q2c2⟩ := cells3 HC2.out; have q2u := (B2b.cell (p := ⟨b1, 0, none⟩) hb1).trans hc1; have q2d := (B2b.cell (p := ⟨b2, 0, none⟩) hb2).trans hc2))
  have L2 := gA2.lst
  go_wp2_with fail
  go_ret
  exact ⟨_, rfl, L2, B2b⟩

theorem appendTo_calls (base g1 g2 : Nat) (pu pd : Value) (o1 o2 : Option Int) (v : Value) (ls : List Avp) (w : World) (hl : Lst w base v ls) (hbase : base ≤ w.heap.size) (hll : ls.length ≤ 1000) (hu : OptU w base pu o1) (hd : OptU w base pd o2) :
    Calls Ybad.prog 18 #[.agg #[pu, pd], v, .agg #[.int .u32 (gc g1), .int .u32 (gv g1), .bool (gm g1)], .agg #[.int .u32 (gc g2), .int .u32 (gv g2), .bool (gm g2)]] w fun e w' =>
      ∃ v', e = .returned v' ∧ Lst w' base v' (ls ++ optA g1 o1 ++ optA g2 o2) ∧ Below base w w' := by
  rcases hu with ⟨rfl, rfl⟩ | ⟨b1, x1, rfl, rfl, h1, h2, h3, h4⟩ <;> rcases hd with ⟨rfl, rfl⟩ | ⟨b2, x2, rfl, rfl, h5, h6, h7, h8⟩
  · simpa [optA] using to_nn base g1 g2 0 0 0 0 v ls w hl hbase hll
  · simpa [optA] using to_ny base g1 g2 0 b2 0 x2 v ls w hl hbase hll h5 h6 h7 h8
  · simpa [optA] using to_yn base g1 g2 b1 0 x1 0 v ls w hl hbase hll h1 h2 h3 h4
  · simpa [optA] using to_yy base g1 g2 b1 b2 x1 x2 v ls w hl hbase hll h1 h2 h3 h4 h5 h6 h7 h8

end Go.Proofs.YbulkaroiDoor
