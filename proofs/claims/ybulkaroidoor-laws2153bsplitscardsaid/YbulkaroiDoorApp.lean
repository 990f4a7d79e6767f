import Derived.Test.YbulkaroiDoorLeaf
set_option linter.unusedVariables false
namespace Go.Proofs.YbulkaroiDoor
open Go.RowKit Go.Deep

/-- The three bytes of a length. -/
def be24 (v : Nat) : List Int := [(v : Int) / 65536, (v : Int) / 256 % 256, (v : Int) % 256]
def padN (k : Nat) : Nat := (4 - k % 4) % 4
def zeros (k : Nat) : List Int := List.replicate k 0
/-- An AVP's head on the wire. -/
def headB (c f v : Int) (n : Nat) : List Int := be32 c ++ [f] ++ be24 (hlen f + n) ++ (if 128 ≤ f then be32 v else [])
/-- An AVP on the wire, padded. -/
def avpB (c f v : Int) (d : List Int) : List Int := headB c f v d.length ++ d ++ zeros (padN (hlen f + d.length))

theorem cells4 {w : World} {g : Nat} {a b c d : Value} {t : TypeId} (hb : w.heap[g]? = some (.cells #[a, b, c, d] t (0, 0))) :
    w.cell? ⟨g, 0, none⟩ = some a ∧ w.cell? ⟨g, 1, none⟩ = some b ∧ w.cell? ⟨g, 2, none⟩ = some c ∧ w.cell? ⟨g, 3, none⟩ = some d := by
  simp [World.cell?, hb]

theorem Grew.keep {base : Nat} {w w' : World} {b b' : Value} {n k : Nat} {ys : List Int} {o : Obj} (h : Grew base w b w' b' n ys) (hb : w.heap[k]? = some o) (hne : b.ownBlock ≠ some k) : w'.heap[k]? = some o ∧ b'.ownBlock ≠ some k := by
  have hk : k < w.heap.size := by
    rcases Nat.lt_or_ge k w.heap.size with h' | h'
    · exact h'
    · rw [Array.getElem?_eq_none h'] at hb; cases hb
  exact ⟨(h.grown.block k hk (fun e => hne e.symm)).trans hb, h.away k hk hne⟩

theorem flag_yes {f : Int} (hf : FlagOk f) (h : 128 ≤ f) : (bits BinOp.and IntKind.u8 f 128 != 0) = true := by
  rcases hf with rfl | rfl | rfl | rfl <;> first | omega | decide +kernel
theorem flag_no {f : Int} (hf : FlagOk f) (h : ¬ 128 ≤ f) : (bits BinOp.and IntKind.u8 f 128 != 0) = false := by
  rcases hf with rfl | rfl | rfl | rfl <;> first | omega | decide +kernel

theorem src_flag (w : World) (a : Int) (g : Nat) (hg : w.heap.size = g) : SrcOk (w.alloc (.cells #[.int .u8 a, .int .u8 0, .int .u8 0, .int .u8 0] 5)) (some ⟨g, 0, none⟩) [a, 0, 0, 0] := src_four w a 0 0 0 g hg

theorem own_put {w : World} {base g n cap i : Nat} {xs : List Int} (h : w.ownsRow base 5 1 (.slice (some ⟨g, 0, none⟩) n cap) n (xs.map u8)) (hi : i < n) (v : Int) :
    (w.setCell ⟨g, i, none⟩ (.int .u8 v)).ownsRow base 5 1 (.slice (some ⟨g, 0, none⟩) n cap) n ((xs.set i v).map u8) := by
  refine ⟨by simpa using h.1, ?_⟩
  rcases h.2 with ⟨e, _⟩ | ⟨g', cap', cur, e, hg, hb, h1, h2, h3, h4⟩
  · cases e
  · cases e
    refine .inr ⟨g, cap, _, rfl, hg, heap_setCell_same w g i cur 5 _ hb, h1, h2, by simpa using h3, ?_⟩
    simp only [Nat.mul_one] at h4 ⊢
    rw [Array.toList_setIfInBounds, List.take_set, h4, List.map_set]

theorem own_cell {w : World} {base g n cap j : Nat} {xs : List Int} {v : Int} (h : w.ownsRow base 5 1 (.slice (some ⟨g, 0, none⟩) n cap) n (xs.map u8)) (hj : xs[j]? = some v) :
    w.cell? ⟨g, j, none⟩ = some (.int .u8 v) ∧ w.frozen? ⟨g, j, none⟩ = false := by
  rcases h.2 with ⟨e, _⟩ | ⟨g', cap', cur, e, hg, hb, h1, h2, h3, h4⟩
  · cases e
  · cases e
    have hc := h.cells rfl j (u8 v) (by simp [hj])
    have e1 : (⟨g, 0, none⟩ : Addr).add j = ⟨g, j, none⟩ := by
      unfold Addr.add; split
      · rename_i h; subst h; rfl
      · simp
    rw [e1] at hc
    exact ⟨hc, by simp [World.frozen?, hb]⟩

theorem own_form {w : World} {base n : Nat} {v : Value} {xs : List Int} (h : w.ownsRow base 5 1 v n (xs.map u8)) (hn : 0 < n) : ∃ g k, v = .slice (some ⟨g, 0, none⟩) n k ∧ base ≤ g ∧ g < w.heap.size ∧ n ≤ k ∧ k ≤ maxLen := by
  rcases h.2 with ⟨rfl, rfl⟩ | ⟨g, cap, cur, rfl, hg, hb, h1, h2, h3, h4⟩
  · omega
  · exact ⟨g, cap, rfl, hg, (h.lt g rfl).2, h1, h2⟩

theorem set3_list (l : List Int) (n : Nat) (f a b c : Int) (hl : l.length = n) : (((l ++ [f, 0, 0, 0]).set (n + 1) a).set (n + 1 + 1) b).set (n + 1 + 2) c = l ++ [f, a, b, c] := by
  subst hl
  have h1 : (l ++ [f, 0, 0, 0]).set (l.length + 1) a = l ++ [f, a, 0, 0] := by rw [List.set_append_right _ _ (by omega)]; simp
  have h2 : (l ++ [f, a, 0, 0]).set (l.length + 1 + 1) b = l ++ [f, a, b, 0] := by rw [List.set_append_right _ _ (by omega), show l.length + 1 + 1 - l.length = 2 from by omega]; rfl
  have h3 : (l ++ [f, a, b, 0]).set (l.length + 1 + 2) c = l ++ [f, a, b, c] := by rw [List.set_append_right _ _ (by omega), show l.length + 1 + 2 - l.length = 3 from by omega]; rfl
  rw [h1, h2, h3]

theorem put3_keep (g o k : Nat) (w w' : World) (a b c : Value) (ob : Obj) (hne : g ≠ k) (hw : w' = ((w.setCell ⟨g, o, none⟩ a).setCell ⟨g, o + 1, none⟩ b).setCell ⟨g, o + 2, none⟩ c) (hb : w.heap[k]? = some ob) : w'.heap[k]? = some ob := by
  rw [hw, heap_setCell_other _ _ _ _ (fun e => hne e.symm), heap_setCell_other _ _ _ _ (fun e => hne e.symm), heap_setCell_other _ _ _ _ (fun e => hne e.symm), hb]

theorem put3_grew {base g n cap : Nat} {w2 w3 w4 : World} {l : List Int} {f a b c : Int} (hown : w2.ownsRow base 5 1 (.slice (some ⟨g, 0, none⟩) (n + 4) cap) (n + 4) ((l ++ [f, 0, 0, 0]).map u8)) (hl : l.length = n) (hbel : Below w2.heap.size w2 w3)
    (hw : w4 = ((w3.setCell ⟨g, n + 1, none⟩ (.int .u8 a)).setCell ⟨g, n + 1 + 1, none⟩ (.int .u8 b)).setCell ⟨g, n + 1 + 2, none⟩ (.int .u8 c)) :
    Grew base w2 (.slice (some ⟨g, 0, none⟩) (n + 4) cap) w4 (.slice (some ⟨g, 0, none⟩) (n + 4) cap) (n + 4) (l ++ [f, a, b, c]) := by
  have h3 : w3.ownsRow base 5 1 (.slice (some ⟨g, 0, none⟩) (n + 4) cap) (n + 4) ((l ++ [f, 0, 0, 0]).map u8) := hown.kept (grown_of_below hbel none) (.inr (by simp [Value.ownBlock]))
  have h4 := own_put (own_put (own_put h3 (i := n + 1) (by omega) a) (i := n + 1 + 1) (by omega) b) (i := n + 1 + 2) (by omega) c
  rw [set3_list l n f a b c hl, ← hw] at h4
  refine ⟨h4, ?_, fun _ _ h => h⟩
  have hg : w2.grownBy w3 (some g) := grown_of_below hbel _
  rw [hw]
  exact grown_trans (grown_trans (grown_trans hg (grown_set _ _ _ _)) (grown_set _ _ _ _)) (grown_set _ _ _ _)

def lenV : Value → Nat | .slice _ n _ => n | _ => 0

theorem zeros_succ (j : Nat) : zeros (j + 1) = zeros j ++ [0] := by simp [zeros, List.replicate_succ']

theorem src_one (w : World) (a : Int) (g : Nat) (hg : w.heap.size = g) : SrcOk (w.alloc (.cells #[.int .u8 a] 5)) (some ⟨g, 0, none⟩) [a] := by
  subst hg
  refine ⟨fun e => (by cases e), fun ad e => ⟨(by cases e; exact ⟨_, _, heap_alloc_new w _⟩), fun j v hj => ?_⟩⟩
  cases e
  match j, hj with
  | 0, hj => simp at hj; subst hj; simp [Addr.add]
  | (j + 1), hj => simp at hj

set_option maxHeartbeats 2000000 in
theorem append_calls (w0 : World) (base : Nat) (c f v : Int) (p : Option Addr) (dn dk : Nat) (d : List Int) (b : Value) (n : Nat) (xs : List Int) (w : World)
    (hc0 : 0 ≤ c) (hc1 : c < 4294967296) (hv0 : 0 ≤ v) (hv1 : v < 4294967296) (hf : FlagOk f) (hdn : d.length = dn) (hdk : p = none → dk = 0) (hd : dn ≤ 10000000) (hn : n ≤ 100000000) (hn4 : n % 4 = 0)
    (hown : w.ownsRow base 5 1 b n (xs.map u8)) (hbase : base ≤ w.heap.size) (h0 : w0.heap.size ≤ base) (hb0 : Below base w0 w) (hsrc : SrcOk w0 p d) :
    Calls Ybad.prog 22 #[.agg #[.int .u32 c, .int .u8 f, .int .u32 v, .slice p dn dk], b] w fun e w' => ∃ b' m, e = .returned b' ∧ Grew base w b w' b' m (xs ++ avpB c f v d) := by
  have hf0 : 0 ≤ f ∧ f ≤ 255 := by rcases hf with rfl | rfl | rfl | rfl <;> omega
  go_enter Ybad.func22, Ybad.ntmps22
  go_wp2_with fail
  refine (appendUint32_calls base b n xs c _ (hown.alloc _) (by simp; omega) (by omega) hc0 hc1).mono ?_
  rintro e w1 ⟨b1, rfl, g1⟩
  have x1 := g1.keep (k := w.heap.size) (heap_alloc_new w _) (fun e => by have := (hown.lt _ e).2; omega)
  obtain ⟨hbox1, away1⟩ := x1
  have HB1 : Hid (w1.heap[w.heap.size]? = some (.cells #[.int .u32 c, .int .u8 f, .int .u32 v, .slice p dn dk] 29 (0, 0))) := hbox1
  obtain ⟨k0, k1, k2, k3⟩ := cells4 hbox1
  clear hbox1
  go_wp2_with (at_builtin; refine wpList_append_bytes ?_ (.tmp 10) (.tmp 13) ?_ base b1 (n + 4) (xs ++ be32 c) ?_ ?_ (some ⟨w1.heap.size, 0, none⟩) 4 4 [f, 0, 0, 0] ?_ ?_ ?_ ?_ ?_ ?_ ?_; rfl; rfl; rfl; exact g1.own.alloc _; rfl; rfl; (intro e; cases e); exact src_four _ _ _ _ _ _ rfl; omega; (have := g1.grown.size; simp at this; simp; omega); intro b2 w2 g2)
  have x2 := g2.alloc.keep (k := w.heap.size) HB1.out away1
  obtain ⟨hbox2, away2⟩ := x2
  have HB2 : Hid (w2.heap[w.heap.size]? = some (.cells #[.int .u32 c, .int .u8 f, .int .u32 v, .slice p dn dk] 29 (0, 0))) := hbox2
  obtain ⟨l0, l1, l2, l3⟩ := cells4 hbox2
  clear hbox2 k0 k1 k2 k3
  have hl1 : (xs ++ be32 c).length = n + 4 := by have := g1.own.1; simpa using this
  obtain ⟨g, cap, hv2, hgb, hgs, hnc, hcm⟩ := own_form g2.own (by omega)
  subst hv2
  unfold maxLen at hcm
  have c5 := own_cell g2.own (j := n + 4 + 1) (v := 0) (by rw [List.getElem?_append_right (by omega)]; simp [hl1])
  have c6 := own_cell g2.own (j := n + 4 + 1 + 1) (v := 0) (by rw [List.getElem?_append_right (by omega)]; simp [hl1])
  have c7 := own_cell g2.own (j := n + 4 + 1 + 2) (v := 0) (by rw [List.getElem?_append_right (by omega)]; simp [hl1])
  have hq1 : ((n : Int) + 4 + 4 - 3).toNat = n + 4 + 1 := by omega
  have hq2 : ¬ cap = n + 4 + 1 := by omega
  have hq3 : (3 : Int) ≤ (n : Int) + 4 + 4 := by omega
  have hq4 : (n : Int) + 4 + 4 - 3 ≤ (n : Int) + 4 + 4 := by omega
  have hq5 : n + 4 + 4 - (n + 4 + 1) = 3 := by omega
  have hq6 : IntKind.i64.wrap ((n : Int) + 4 + 4 - 3) = (n : Int) + 4 + 4 - 3 := by rw [IntKind.wrap_i64]; omega
  have hhl : hlen f = 8 ∨ hlen f = 12 := by unfold hlen; split <;> simp
  have hq7 : IntKind.i64.wrap ((hlen f : Int) + (dn : Int)) = (hlen f : Int) + dn := by rw [IntKind.wrap_i64]; omega
  have hq8 : IntKind.u32.wrap ((hlen f : Int) + (dn : Int)) = (hlen f : Int) + dn := by rw [IntKind.wrap_u32]; omega
  have hgne : g ≠ w.heap.size := fun e => away2 (by rw [e]; rfl)
  have hz1 : w.heap.size < w1.heap.size := by have := g1.grown.size; simp at this; omega
  have hz2 : w.heap.size < w2.heap.size := by have := g2.grown.size; simp at this; omega
  go_wp2_with fail
  go_region_held3 (fun w' => w'.cell? ⟨w.heap.size, 0, none⟩ = some (.int .u32 c) ∧ w'.cell? ⟨w.heap.size, 1, none⟩ = some (.int .u8 f) ∧ w'.cell? ⟨w.heap.size, 2, none⟩ = some (.int .u32 v) ∧ w'.cell? ⟨w.heap.size, 3, none⟩ = some (.slice p dn dk)) (go_keep)
    (first
      | (go_at_call 26; refine (headerLen_calls c f v p dn dk _ hf).mono ?_; rintro e w3 ⟨rfl, hbel3⟩; have r3 := cells4 (g := w.heap.size) ((hbel3.block _ hz2).trans HB2.out))
      | (go_at_call 27; refine (putUint24_calls g (n + 4 + 1) 3 _ ((hlen f : Int) + dn) 0 0 0 w3 (Nat.le_refl _) ((hbel3.cell (p := ⟨g, n + 4 + 1, none⟩) hgs).trans c5.1) ((hbel3.cell (p := ⟨g, n + 4 + 1 + 1, none⟩) hgs).trans c6.1) ((hbel3.cell (p := ⟨g, n + 4 + 1 + 2, none⟩) hgs).trans c7.1)
          ((hbel3.frozen (p := ⟨g, n + 4 + 1, none⟩) hgs).trans c5.2) ((hbel3.frozen (p := ⟨g, n + 4 + 1 + 1, none⟩) hgs).trans c6.2) ((hbel3.frozen (p := ⟨g, n + 4 + 1 + 2, none⟩) hgs).trans c7.2) ?_ ?_).mono ?_; omega; omega; rintro e w4 ⟨rfl, hw4⟩; have hw5 := put3_keep g (n + 4 + 1) w.heap.size w3 w4 _ _ _ _ hgne hw4 ((hbel3.block _ hz2).trans HB2.out); have r4 := cells4 hw5; have HW4 : Hid (w4 = _) := hw4; clear hw4))
  have g4 : Grew base w2 (.slice (some ⟨g, 0, none⟩) (n + 4 + 4) cap) w4 (.slice (some ⟨g, 0, none⟩) (n + 4 + 4) cap) (n + 4 + 4) (xs ++ be32 c ++ [f, ((hlen f : Int) + dn) / 65536, ((hlen f : Int) + dn) / 256 % 256, ((hlen f : Int) + dn) % 256]) :=
    put3_grew g2.own hl1 ((Below.refl _ w2).drew.trans hbel3) HW4.out
  have HB4 : Hid (w4.heap[w.heap.size]? = some (.cells #[.int .u32 c, .int .u8 f, .int .u32 v, .slice p dn dk] 29 (0, 0))) := hw5
  have hz4 : base ≤ w4.heap.size := by have := g4.grown.size; omega
  clear HW4 hw5 c5 c6 c7 l0 l1 l2 l3 hq1 hq2 hq3 hq4 hq5 hq6 hq7 hq8 r3 hbel3
  obtain ⟨m0, m1, m2, m3⟩ := r4
  have hB4 : Below base w0 w4 := ((hb0.trans (g1.alloc.below hown hbase)).trans (g2.alloc.below g1.own (by omega))).trans (g4.below g2.own (by omega))
  by_cases hf2 : 128 ≤ f
  · have hfl := flag_yes hf hf2
    go_wp2_with fail
    refine (appendUint32_calls base _ (n + 4 + 4) _ v w4 g4.own hz4 (by omega) hv0 hv1).mono ?_
    rintro e w5 ⟨b5, rfl, g5⟩
    have x5 := g5.keep (k := w.heap.size) HB4.out away2
    obtain ⟨hbox5, away5⟩ := x5
    obtain ⟨s0, s1, s2, s3⟩ := cells4 hbox5
    have hB5 : Below base w0 w5 := hB4.trans (g5.below g4.own hz4)
    have g5' := g5
    generalize hL5 : xs ++ be32 c ++ [f, ((hlen f : Int) + dn) / 65536, ((hlen f : Int) + dn) / 256 % 256, ((hlen f : Int) + dn) % 256] ++ be32 v = L5 at *
    have HL5 : Hid (xs ++ be32 c ++ [f, ((hlen f : Int) + dn) / 65536, ((hlen f : Int) + dn) / 256 % 256, ((hlen f : Int) + dn) % 256] ++ be32 v = L5) := hL5
    generalize hN5 : n + 4 + 4 + 4 = N5 at *
    have HN5 : Hid (n + 4 + 4 + 4 = N5) := hN5
    have hN5' : N5 ≤ 100000012 := by omega
    have hN5p : 0 < N5 := by omega
    clear hbox5 m0 m1 m2 m3 hL5 hN5
    have hs5 : SrcOk w5 p d := (hsrc.later (hB5.mono h0))
    have hz5 : base ≤ w5.heap.size := by have := g5.grown.size; omega
    go_wp2_with (at_builtin; refine wpList_append_bytes ?_ (.tmp 37) (.tmp 39) ?_ base b5 N5 L5 ?_ ?_ p dn dk d ?_ ?_ ?_ ?_ ?_ ?_ ?_; rfl; rfl; rfl; exact g5.own; rfl; exact hdn; exact hdk; exact hs5; omega; omega; intro b6 w6 g6)
    obtain ⟨g', cap', hv6, hgb', hgs', hnc', hcm'⟩ := own_form g6.own (by omega)
    unfold maxLen at hcm'
    have hz6 : base ≤ w6.heap.size := by have := g6.grown.size; omega
    generalize hN6 : N5 + dn = N6 at *
    have HN6 : Hid (N5 + dn = N6) := hN6
    have hN6' : N6 ≤ 200000000 := by omega
    clear hN6 s0 s1 s2 s3
    subst hv6
    go_wp2_with fail
    go_loopw [1] (fun b wr => ∃ (j gg cc : Nat), b = .slice (some ⟨gg, 0, none⟩) (N6 + j) cc ∧ j ≤ padN N6 ∧ cc ≤ 9223372036854775807 ∧ Grew base w6 (.slice (some ⟨g', 0, none⟩) N6 cap') wr b (N6 + j) (L5 ++ d ++ zeros j)) (fun b _ => N6 + 4 - lenV b)
    case atStart => exact ⟨0, g', cap', rfl, Nat.zero_le _, hcm', ⟨by simpa [zeros] using g6.own, ⟨rfl, rfl, rfl, Nat.le_refl _, fun _ _ _ => rfl⟩, fun _ _ h => h⟩⟩
    case round =>
      obtain ⟨j, gg, cc, rfl, hj, hcc, gl⟩ := hrel
      have hpad : padN N6 < 4 := by unfold padN; omega
      by_cases hjp : j < padN N6
      · have ht : (((N6 : Int) + j) % 4 != 0) = true := by rw [bne_iff_ne]; unfold padN at hjp; omega
        have hzr : base ≤ wr.heap.size := by have := gl.grown.size; omega
        go_wp2_with (at_builtin; refine wpList_append_bytes ?_ (.tmp 45) (.tmp 46) ?_ base (.slice (some ⟨gg, 0, none⟩) (N6 + j) cc) (N6 + j) (L5 ++ d ++ zeros j) ?_ ?_ (some ⟨wr.heap.size, 0, none⟩) 1 1 [0] ?_ ?_ ?_ ?_ ?_ ?_ ?_; rfl; rfl; rfl; exact gl.own.alloc _; rfl; rfl; (intro e; cases e); exact src_one _ _ _ rfl; omega; (simp; omega); intro b7 w7 g7)
        obtain ⟨g8, cap8, hv8, hgb8, hgs8, hnc8, hcm8⟩ := own_form g7.own (by omega)
        subst hv8
        unfold maxLen at hcm8
        go_roundw
        case rel =>
          refine ⟨j + 1, g8, cap8, rfl, by omega, hcm8, ?_⟩
          have := gl.trans g7.alloc
          have e9 : L5 ++ d ++ zeros (j + 1) = L5 ++ d ++ zeros j ++ [0] := by rw [zeros_succ]; simp
          rw [e9]
          exact this
        case measure => simp [lenV]; omega
      · have hj' : j = padN N6 := by omega
        have ht : (((N6 : Int) + j) % 4 != 0) = false := by rw [bne_eq_false_iff_eq]; unfold padN at hj'; omega
        go_wp2_with fail
        go_ret
        subst hj'
        refine ⟨_, N6 + padN N6, rfl, ?_⟩
        have := g1.alloc.trans (g2.alloc.trans (g4.trans (g5'.trans (g6.trans gl))))
        have hw : hlen f = 12 := by unfold hlen; rw [if_pos hf2]
        have hp : padN N6 = padN (hlen f + d.length) := by rw [hw, hdn, ← HN6.out, ← HN5.out]; unfold padN; omega
        rw [hp] at this ⊢
        have hL : L5 ++ d ++ zeros (padN (hlen f + d.length)) = xs ++ avpB c f v d := by
          rw [← HL5.out]
          simp [avpB, headB, be24, hf2, hdn]
        rw [hL] at this
        exact this
  · have hfl := flag_no hf hf2
    have g5' := g4
    have g5 := g4
    obtain ⟨s0, s1, s2, s3⟩ := cells4 HB4.out
    have hB5 : Below base w0 w4 := hB4
    generalize hL5 : xs ++ be32 c ++ [f, ((hlen f : Int) + dn) / 65536, ((hlen f : Int) + dn) / 256 % 256, ((hlen f : Int) + dn) % 256] = L5 at *
    have HL5 : Hid (xs ++ be32 c ++ [f, ((hlen f : Int) + dn) / 65536, ((hlen f : Int) + dn) / 256 % 256, ((hlen f : Int) + dn) % 256] = L5) := hL5
    generalize hN5 : n + 4 + 4 = N5 at *
    have HN5 : Hid (n + 4 + 4 = N5) := hN5
    have hN5' : N5 ≤ 100000012 := by omega
    have hN5p : 0 < N5 := by omega
    clear m0 m1 m2 m3 hL5 hN5
    have hs5 : SrcOk w4 p d := (hsrc.later (hB5.mono h0))
    have hz5 : base ≤ w4.heap.size := by have := g5.grown.size; omega
    go_wp2_with (at_builtin; refine wpList_append_bytes ?_ (.tmp 37) (.tmp 39) ?_ base (.slice (some ⟨g, 0, none⟩) N5 cap) N5 L5 ?_ ?_ p dn dk d ?_ ?_ ?_ ?_ ?_ ?_ ?_; rfl; rfl; rfl; exact g5.own; rfl; exact hdn; exact hdk; exact hs5; omega; omega; intro b6 w6 g6)
    obtain ⟨g', cap', hv6, hgb', hgs', hnc', hcm'⟩ := own_form g6.own (by omega)
    unfold maxLen at hcm'
    have hz6 : base ≤ w6.heap.size := by have := g6.grown.size; omega
    generalize hN6 : N5 + dn = N6 at *
    have HN6 : Hid (N5 + dn = N6) := hN6
    have hN6' : N6 ≤ 200000000 := by omega
    clear hN6 s0 s1 s2 s3
    subst hv6
    go_wp2_with fail
    go_loopw [1] (fun b wr => ∃ (j gg cc : Nat), b = .slice (some ⟨gg, 0, none⟩) (N6 + j) cc ∧ j ≤ padN N6 ∧ cc ≤ 9223372036854775807 ∧ Grew base w6 (.slice (some ⟨g', 0, none⟩) N6 cap') wr b (N6 + j) (L5 ++ d ++ zeros j)) (fun b _ => N6 + 4 - lenV b)
    case atStart => exact ⟨0, g', cap', rfl, Nat.zero_le _, hcm', ⟨by simpa [zeros] using g6.own, ⟨rfl, rfl, rfl, Nat.le_refl _, fun _ _ _ => rfl⟩, fun _ _ h => h⟩⟩
    case round =>
      obtain ⟨j, gg, cc, rfl, hj, hcc, gl⟩ := hrel
      have hpad : padN N6 < 4 := by unfold padN; omega
      by_cases hjp : j < padN N6
      · have ht : (((N6 : Int) + j) % 4 != 0) = true := by rw [bne_iff_ne]; unfold padN at hjp; omega
        have hzr : base ≤ wr.heap.size := by have := gl.grown.size; omega
        go_wp2_with (at_builtin; refine wpList_append_bytes ?_ (.tmp 45) (.tmp 46) ?_ base (.slice (some ⟨gg, 0, none⟩) (N6 + j) cc) (N6 + j) (L5 ++ d ++ zeros j) ?_ ?_ (some ⟨wr.heap.size, 0, none⟩) 1 1 [0] ?_ ?_ ?_ ?_ ?_ ?_ ?_; rfl; rfl; rfl; exact gl.own.alloc _; rfl; rfl; (intro e; cases e); exact src_one _ _ _ rfl; omega; (simp; omega); intro b7 w7 g7)
        obtain ⟨g8, cap8, hv8, hgb8, hgs8, hnc8, hcm8⟩ := own_form g7.own (by omega)
        subst hv8
        unfold maxLen at hcm8
        go_roundw
        case rel =>
          refine ⟨j + 1, g8, cap8, rfl, by omega, hcm8, ?_⟩
          have := gl.trans g7.alloc
          have e9 : L5 ++ d ++ zeros (j + 1) = L5 ++ d ++ zeros j ++ [0] := by rw [zeros_succ]; simp
          rw [e9]
          exact this
        case measure => simp [lenV]; omega
      · have hj' : j = padN N6 := by omega
        have ht : (((N6 : Int) + j) % 4 != 0) = false := by rw [bne_eq_false_iff_eq]; unfold padN at hj'; omega
        go_wp2_with fail
        go_ret
        subst hj'
        refine ⟨_, N6 + padN N6, rfl, ?_⟩
        have := g1.alloc.trans (g2.alloc.trans (g4.trans (g6.trans gl)))
        have hf3 : ¬ 128 ≤ f := by omega
        have hw : hlen f = 8 := by unfold hlen; rw [if_neg hf3]
        have hp : padN N6 = padN (hlen f + d.length) := by rw [hw, hdn, ← HN6.out, ← HN5.out]; unfold padN; omega
        rw [hp] at this ⊢
        have hL : L5 ++ d ++ zeros (padN (hlen f + d.length)) = xs ++ avpB c f v d := by
          rw [← HL5.out]
          simp [avpB, headB, be24, hf3, hdn]
        rw [hL] at this
        exact this

end Go.Proofs.YbulkaroiDoor
