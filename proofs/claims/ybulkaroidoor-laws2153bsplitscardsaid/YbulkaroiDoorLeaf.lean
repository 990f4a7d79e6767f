import Derived.Test.YbulkaroiDoorBase
set_option linter.unusedVariables false
namespace Go.Proofs.YbulkaroiDoor
open Go.RowKit Go.Deep

/-- The flags of an AVP of a definition with vendor v and mandatory m. -/
def flagsOf (v : Int) (m : Bool) : Int := if v = 0 then (if m then 64 else 0) else (if m then 192 else 128)

theorem or1 : bits BinOp.or IntKind.u8 0 128 = 128 := by decide +kernel
theorem or2 : bits BinOp.or IntKind.u8 0 64 = 64 := by decide +kernel
theorem or3 : bits BinOp.or IntKind.u8 128 64 = 192 := by decide +kernel

set_option maxHeartbeats 400000 in
theorem avp_calls (c v : Int) (m : Bool) (a : Option Addr) (n k : Nat) (w : World) :
    Calls Ybad.prog 23 #[.agg #[.int .u32 c, .int .u32 v, .bool m], .slice a n k] w fun e w' =>
      e = .returned (.agg #[.int .u32 c, .int .u8 (flagsOf v m), .int .u32 v, .slice a n k]) ∧ Below w.heap.size w w' := by
  have o1 := or1
  have o2 := or2
  have o3 := or3
  by_cases hv : v = 0
  · subst hv
    cases m <;>
    · go_enter Ybad.func23, Ybad.ntmps23
      go_wp2_with fail
      refine bodyPost_ret (v := .agg #[.int .u32 c, .int .u8 (flagsOf 0 _), .int .u32 0, .slice a n k]) (by simp [results, Ybad.results23, go_sem, flagsOf]; rfl) rfl ?_
      exact ⟨rfl, (((Below.refl _ _).alloc (Nat.le_refl _) _).alloc (by simp) _).alloc (by simp; omega) _⟩
  · have hv' : (v != 0) = true := by simpa using hv
    cases m <;>
    · go_enter Ybad.func23, Ybad.ntmps23
      go_wp2_with fail
      refine bodyPost_ret (v := .agg #[.int .u32 c, .int .u8 (flagsOf v _), .int .u32 v, .slice a n k]) (by simp [results, Ybad.results23, go_sem, flagsOf, hv]; rfl) rfl ?_
      exact ⟨rfl, (((Below.refl _ _).alloc (Nat.le_refl _) _).alloc (by simp) _).alloc (by simp; omega) _⟩

def FlagOk (f : Int) : Prop := f = 0 ∨ f = 64 ∨ f = 128 ∨ f = 192
theorem flagOk_of (v : Int) (m : Bool) : FlagOk (flagsOf v m) := by
  unfold FlagOk flagsOf
  cases m <;> simp <;> omega
/-- The header's length. -/
def hlen (f : Int) : Nat := if 128 ≤ f then 12 else 8

theorem and1 : bits BinOp.and IntKind.u8 0 128 = 0 := by decide +kernel
theorem and2 : bits BinOp.and IntKind.u8 64 128 = 0 := by decide +kernel
theorem and3 : bits BinOp.and IntKind.u8 128 128 = 128 := by decide +kernel
theorem and4 : bits BinOp.and IntKind.u8 192 128 = 128 := by decide +kernel

set_option maxHeartbeats 400000 in
theorem headerLen_calls (c f v : Int) (a : Option Addr) (n k : Nat) (w : World) (hf : FlagOk f) :
    Calls Ybad.prog 26 #[.agg #[.int .u32 c, .int .u8 f, .int .u32 v, .slice a n k]] w fun e w' =>
      e = .returned (.int .i64 (hlen f)) ∧ Below w.heap.size w w' := by
  have o1 := and1
  have o2 := and2
  have o3 := and3
  have o4 := and4
  rcases hf with rfl | rfl | rfl | rfl <;>
  · go_enter Ybad.func26, Ybad.ntmps26
    go_wp2_with fail
    go_ret
    exact ⟨rfl, (Below.refl _ _).alloc (Nat.le_refl _) _⟩

set_option maxHeartbeats 400000 in
theorem putUint24_calls (g o n k : Nat) (v x0 x1 x2 : Int) (w : World) (hn : 3 ≤ n) (h0 : w.cell? ⟨g, o, none⟩ = some (.int .u8 x0)) (h1 : w.cell? ⟨g, o + 1, none⟩ = some (.int .u8 x1)) (h2 : w.cell? ⟨g, o + 2, none⟩ = some (.int .u8 x2))
    (f0 : w.frozen? ⟨g, o, none⟩ = false) (f1 : w.frozen? ⟨g, o + 1, none⟩ = false) (f2 : w.frozen? ⟨g, o + 2, none⟩ = false) (hv0 : 0 ≤ v) (hv1 : v ≤ 16000000) :
    Calls Ybad.prog 27 #[.slice (some ⟨g, o, none⟩) n k, .int .u32 v] w fun e w' =>
      e = .returned (.tuple #[]) ∧ w' = ((w.setCell ⟨g, o, none⟩ (.int .u8 (v / 65536))).setCell ⟨g, o + 1, none⟩ (.int .u8 (v / 256 % 256))).setCell ⟨g, o + 2, none⟩ (.int .u8 (v % 256)) := by
  have hn' : (2 : Int) < n := by omega
  have hn1 : (1 : Int) < n := by omega
  have hn0 : (0 : Int) < n := by omega
  go_enter Ybad.func27, Ybad.ntmps27
  go_wp2_with fail
  go_end0
  exact ⟨rfl, rfl⟩

/-- The four bytes of a uint32, the greatest first. -/
def be32 (v : Int) : List Int := [v / 16777216, v / 65536 % 256, v / 256 % 256, v % 256]

theorem src_four (w : World) (a b c d : Int) (g : Nat) (hg : w.heap.size = g) : SrcOk (w.alloc (.cells #[.int .u8 a, .int .u8 b, .int .u8 c, .int .u8 d] 5)) (some ⟨g, 0, none⟩) [a, b, c, d] := by
  subst hg
  refine ⟨fun e => (by cases e), fun ad e => ⟨(by cases e; exact ⟨_, _, heap_alloc_new w _⟩), fun j v hj => ?_⟩⟩
  cases e
  match j, hj with
  | 0, hj => simp at hj; subst hj; simp [Addr.add]
  | 1, hj => simp at hj; subst hj; simp [Addr.add]
  | 2, hj => simp at hj; subst hj; simp [Addr.add]
  | 3, hj => simp at hj; subst hj; simp [Addr.add]
  | (j + 4), hj => simp at hj

set_option maxHeartbeats 400000 in
theorem appendUint32_calls (base : Nat) (b : Value) (n : Nat) (xs : List Int) (v : Int) (w : World) (hown : w.ownsRow base 5 1 b n (xs.map u8)) (hbase : base ≤ w.heap.size) (hn : n ≤ 1000000000) (hv0 : 0 ≤ v) (hv1 : v < 4294967296) :
    Calls Ybad.prog 25 #[.agg #[], b, .int .u32 v] w fun e w' =>
      ∃ b', e = .returned b' ∧ Grew base w b w' b' (n + 4) (xs ++ be32 v) := by
  have m0 : v / 16777216 < 256 := by omega
  have m1 : 0 ≤ v / 16777216 := by omega
  go_enter Ybad.func25, Ybad.ntmps25
  go_wp2_with (at_builtin; refine wpList_append_bytes ?_ (.tmp 7) (.tmp 19) ?_ base b n xs ?_ ?_ (some ⟨w.heap.size + 1, 0, none⟩) 4 4 (be32 v) ?_ ?_ ?_ ?_ ?_ ?_ ?_; rfl; rfl; rfl; exact (hown.alloc _).alloc _; rfl; rfl; (intro e; cases e); exact src_four _ _ _ _ _ _ (by simp); omega; (simp; omega); intro v' w' hgr)
  go_ret
  exact ⟨v', rfl, hgr.alloc.alloc⟩

set_option maxHeartbeats 400000 in
theorem octetString_calls (c v : Int) (m : Bool) (s : ByteArray) (w : World) :
    Calls Ybad.prog 16 #[.agg #[.int .u32 c, .int .u32 v, .bool m], .string s] w fun e w' =>
      ∃ a k, e = .returned (.agg #[.int .u32 c, .int .u8 (flagsOf v m), .int .u32 v, .slice (some a) s.size k]) ∧ Below w.heap.size w w' ∧ SrcOk w' (some a) (s.data.toList.map fun b => (b.toNat : Int)) := by
  obtain ⟨w1, k, hcv, hbel, hsz, hsrc⟩ := str_bytes ((w.alloc (.cells #[.int .u32 c, .int .u32 v, .bool m] 62)).alloc (.cells #[.int .u32 0, .int .u8 0, .int .u32 0, .slice none 0 0] 29)) s
  simp only [World.size_alloc] at hcv hsz hsrc
  go_enter Ybad.func16, Ybad.ntmps16
  go_wp2_with fail
  refine (avp_calls c v m (some ⟨w.heap.size + 1 + 1, 0, none⟩) s.size k w1).mono ?_
  rintro e w2 ⟨rfl, hb2⟩
  obtain ⟨⟨z0, z1, z2, z3⟩, y0, y1, y2, y3⟩ := res4 (g := w.heap.size + 1) (hbel.trans (hb2.mono (by simp; omega))) (heap_alloc_new2 w _ _)
  go_wp2_with fail
  refine bodyPost_ret (v := .agg #[.int .u32 c, .int .u8 (flagsOf v m), .int .u32 v, .slice (some ⟨w.heap.size + 1 + 1, 0, none⟩) s.size k]) (by simp [results, Ybad.results16, go_sem, z0, z1, z2, z3]) rfl ?_
  refine ⟨_, _, rfl, ?_, ?_⟩
  · exact (((((((Below.refl _ _).alloc (Nat.le_refl _) _).alloc (by simp) _).trans (hbel.mono (by simp; omega))).trans (hb2.mono (by omega))).setCell (by simp) _).setCell (by simp) _).setCell (by simp) _ |>.setCell (by simp) _
  · exact (hsrc.later hb2).grown (grown_set4 _ _ _ _ _ _) (fun ad e => by cases e; simp)

/-- A new row of the call's own: not nil where something lies in it; its address and where it lies. -/
theorem own_some {w : World} {base n : Nat} {v : Value} {xs : List Int} (h : w.ownsRow base 5 1 v n (xs.map u8)) (hn : 0 < n) : ∃ g k, v = .slice (some ⟨g, 0, none⟩) n k ∧ base ≤ g ∧ g < w.heap.size ∧ SrcOk w (some ⟨g, 0, none⟩) xs := by
  rcases h.2 with ⟨rfl, rfl⟩ | ⟨g, cap, cur, rfl, hg, hb, h1, h2, h3, h4⟩
  · omega
  · exact ⟨g, cap, rfl, hg, (h.lt g rfl).2, fun e => (by cases e), fun ad e => by cases e; exact ⟨⟨_, _, hb⟩, fun j v hj => h.cells rfl j v hj⟩⟩

theorem appendUint32_nil (v : Int) (w : World) (hv0 : 0 ≤ v) (hv1 : v < 4294967296) :
    Calls Ybad.prog 25 #[.agg #[], .slice none 0 0, .int .u32 v] w fun e w' =>
      ∃ g k, e = .returned (.slice (some ⟨g, 0, none⟩) 4 k) ∧ Below w.heap.size w w' ∧ SrcOk w' (some ⟨g, 0, none⟩) (be32 v) ∧ w.heap.size ≤ g ∧ g < w'.heap.size := by
  refine (appendUint32_calls w.heap.size (.slice none 0 0) 0 [] v w (World.ownsRow_nil _ _ _ _) (Nat.le_refl _) (by omega) hv0 hv1).mono ?_
  rintro e w' ⟨b', rfl, hgr⟩
  obtain ⟨g, k, rfl, hg, hlt, hs⟩ := own_some hgr.own (by omega)
  exact ⟨g, k, rfl, hgr.below (m := 0) (xs := []) (World.ownsRow_nil _ _ _ _) (Nat.le_refl _), hs, hg, hlt⟩

set_option maxHeartbeats 400000 in
theorem unsigned32_calls (c v : Int) (m : Bool) (x : Int) (w : World) (hx0 : 0 ≤ x) (hx1 : x < 4294967296) :
    Calls Ybad.prog 17 #[.agg #[.int .u32 c, .int .u32 v, .bool m], .int .u32 x] w fun e w' =>
      ∃ a k, e = .returned (.agg #[.int .u32 c, .int .u8 (flagsOf v m), .int .u32 v, .slice (some a) 4 k]) ∧ Below w.heap.size w w' ∧ SrcOk w' (some a) (be32 x) := by
  go_enter Ybad.func17, Ybad.ntmps17
  go_wp2_with fail
  go_region_held3 (fun w' => w'.cell? ⟨w.heap.size, 0, none⟩ = some (.int .u32 c) ∧ w'.cell? ⟨w.heap.size, 1, none⟩ = some (.int .u32 v) ∧ w'.cell? ⟨w.heap.size, 2, none⟩ = some (.bool m)) (go_keep)
    (first
      | (go_at_call 25; refine (appendUint32_nil x _ hx0 hx1).mono ?_; rintro e w1 ⟨g, k, rfl, hbel1, hsrc1, hg1, hg2⟩; have k1 := keep3 hbel1 (heap_alloc_old2 w _ _); obtain ⟨k1a, k1b, k1c⟩ := k1)
      | (go_at_call 23; refine (avp_calls _ _ _ _ _ _ _).mono ?_; rintro e w2 ⟨rfl, hbel2⟩; have k2 := keep3 (hbel1.trans (hbel2.mono hbel1.size)) (heap_alloc_old2 w _ _); obtain ⟨k2a, k2b, k2c⟩ := k2; have r2 := res4 (hbel1.trans (hbel2.mono hbel1.size)) (heap_alloc_new2 w _ _); obtain ⟨⟨z0, z1, z2, z3⟩, y0, y1, y2, y3⟩ := r2))
  go_wp2_with fail
  refine bodyPost_ret (v := .agg #[.int .u32 c, .int .u8 (flagsOf v m), .int .u32 v, .slice (some ⟨g, 0, none⟩) 4 k]) (by simp [results, Ybad.results17, go_sem, z0, z1, z2, z3]) rfl ?_
  have hg1' : w.heap.size + 1 + 1 ≤ g := by simpa using hg1
  have hB : Below w.heap.size w w2 := ((((Below.refl _ _).alloc (Nat.le_refl _) _).alloc (by simp) _).drew.trans (hbel1.mono (by simp; omega))).trans (hbel2.mono (by have := hbel1.size; simp at this; omega))
  refine ⟨_, _, rfl, hB.grown (grown_set4 _ _ _ _ _ _) hB.size (fun k e => by cases e; omega), ?_⟩
  exact (hsrc1.later hbel2).grown (grown_set4 _ _ _ _ _ _) (fun ad e => by cases e; simp; omega)

end Go.Proofs.YbulkaroiDoor
