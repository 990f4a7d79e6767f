import Derived.Test.YbulkaroiDoorLst
set_option linter.unusedVariables false
namespace Go.Proofs.YbulkaroiDoor
open Go.RowKit Go.Deep

/-- What the package-level definitions hold, by their numbers in the dump (15 is binary.BigEndian). -/
def gc : Nat → Int | 0 => 1001 | 1 => 1005 | 2 => 432 | 3 => 507 | 4 => 6 | 5 => 1058 | 6 => 511 | 7 => 1028 | 8 => 516 | 9 => 515 | 10 => 1026 | 11 => 1025 | 12 => 1016 | 13 => 1010 | 14 => 1003 | 16 => 1034 | 17 => 1046 | 18 => 1086 | 19 => 433 | 20 => 435 | 21 => 3 | 22 => 1085 | _ => 0
def gv : Nat → Int | 2 => 0 | 19 => 0 | 20 => 0 | 4 => 32473 | 21 => 32473 | _ => 10415
def gm : Nat → Bool | 4 => false | 5 => false | 18 => false | 21 => false | 22 => false | _ => true

def Globals (w : World) : Prop := ∀ g, g < 23 → g ≠ 15 → w.cell? ⟨g, 0, none⟩ = some (.int .u32 (gc g)) ∧ w.cell? ⟨g, 1, none⟩ = some (.int .u32 (gv g)) ∧ w.cell? ⟨g, 2, none⟩ = some (.bool (gm g))

theorem Globals.later {w w' : World} (h : Globals w) (hb : Below w.heap.size w w') : Globals w' := fun g h1 h2 => ⟨cell_later hb (h g h1 h2).1, cell_later hb (h g h1 h2).2.1, cell_later hb (h g h1 h2).2.2⟩

/-- An AVP of definition g with the data d. -/
def mk (g : Nat) (d : List Int) : Avp := ⟨gc g, flagsOf (gv g) (gm g), gv g, d⟩

theorem gc_ok (g : Nat) : (0 ≤ gc g ∧ gc g < 4294967296) ∧ (0 ≤ gv g ∧ gv g < 4294967296) := by
  unfold gc gv
  refine ⟨?_, ?_⟩ <;> split <;> omega

theorem mk_ok (g : Nat) (d : List Int) (h : d.length ≤ 1000000) : AvpOk (mk g d) := ⟨(gc_ok g).1, (gc_ok g).2, flagOk_of _ _, h⟩

theorem at_of_alloc (w : World) (rs : List R) (g : Nat) (cs : Array Value) (hcs : cs.toList = cellsOf rs) (hg : w.heap.size = g) (hok : ∀ r ∈ rs, r.ok w) (h0 : 0 < rs.length) (hlen : rs.length ≤ 1000) : AvpsAt (w.alloc (.cells cs 29)) g (rs.map R.a) := by
  obtain ⟨g', cap, e, h, _⟩ := (lst_of_alloc w w.heap.size rs g cs rs.length hcs rfl hg (Nat.le_refl _) hok hlen).at_ (by simpa using h0)
  simp only [Value.slice.injEq, Option.some.injEq, Addr.mk.injEq] at e
  obtain ⟨⟨rfl, _⟩, _⟩ := e
  exact h

theorem unsigned32_gave (g : Nat) (x : Int) (w : World) (hx0 : 0 ≤ x) (hx1 : x < 4294967296) :
    Calls Ybad.prog 17 #[.agg #[.int .u32 (gc g), .int .u32 (gv g), .bool (gm g)], .int .u32 x] w fun e w' => GaveAvp w (mk g (be32 x)) e w' := by
  refine (unsigned32_calls _ _ _ x w hx0 hx1).mono ?_
  rintro e w' ⟨a, k, rfl, hb, hs⟩
  exact ⟨some a, k, rfl, fun e => (by cases e), hb, hs⟩

/-- A string's bytes as numbers. -/
def strB (s : ByteArray) : List Int := s.data.toList.map fun b => (b.toNat : Int)
theorem strB_len (s : ByteArray) : (strB s).length = s.size := by simp [strB]

theorem octetString_gave (g : Nat) (s : ByteArray) (w : World) :
    Calls Ybad.prog 16 #[.agg #[.int .u32 (gc g), .int .u32 (gv g), .bool (gm g)], .string s] w fun e w' => GaveAvp w (mk g (strB s)) e w' := by
  refine (octetString_calls _ _ _ s w).mono ?_
  rintro e w' ⟨a, k, rfl, hb, hs⟩
  refine ⟨some a, k, ?_, fun e => (by cases e), hb, hs⟩
  simp [mk, strB]

theorem wire_le (a : Avp) : wire a ≤ a.d.length + 15 := by unfold wire hlen; split <;> omega
theorem be32_len (x : Int) : (be32 x).length = 4 := rfl
theorem mk_len (g : Nat) (d : List Int) : (mk g d).d.length = d.length := rfl
theorem wires_cons (a : Avp) (r : List Avp) : wires (a :: r) = wire a + wires r := rfl
theorem wires_nil : wires [] = 0 := rfl
theorem wires_append (r s : List Avp) : wires (r ++ s) = wires r + wires s := by
  induction r with
  | nil => simp [wires]
  | cons a r ih => simp [wires, ih]; omega

theorem grouped_gave (g b cap : Nat) (ls : List Avp) (w : World) (hat : AvpsAt w b ls) (hok : ∀ a ∈ ls, AvpOk a) (hll : ls.length ≤ 100000000) (hw : wires ls ≤ 90000000) :
    Calls Ybad.prog 11 #[.agg #[.int .u32 (gc g), .int .u32 (gv g), .bool (gm g)], .slice (some ⟨b, 0, none⟩) ls.length cap] w fun e w' => GaveAvp w (mk g (allB ls)) e w' :=
  grouped_calls (gc g) (gv g) (gm g) b cap ls w hat hok hll hw

theorem SrcOk.tag {w w' : World} {p : Option Addr} {d : List Int} {g : Nat} {cs : Array Value} {t : TypeId} {fr : Nat × Nat} (h : SrcOk w p d) (hg : w.grownBy w' (some g)) (hb : w.heap[g]? = some (.cells cs t fr)) (ht : t ≠ 5) : SrcOk w' p d := by
  refine h.grown hg (fun ad e hne => ?_)
  obtain ⟨cs', fr', hc⟩ := (h.2 ad e).1
  rw [hne, hb] at hc
  simp only [Option.some.injEq, Obj.cells.injEq] at hc
  exact ht hc.2.1

/-- The end of a function that stores an AVP into its result's cells and gives it back. -/
theorem gave_end {w w2 : World} {g : Nat} {x : Avp} {p : Option Addr} {k : Nat} {cs : Array Value} {fr : Nat × Nat} (hB : Below w.heap.size w w2) (hg : w.heap.size ≤ g) (hb : w2.heap[g]? = some (.cells cs 29 fr)) (hp : p = none → k = 0) (hs : SrcOk w2 p x.d) (a b c d : Value) :
    GaveAvp w x (.returned (.agg #[.int .u32 x.c, .int .u8 x.f, .int .u32 x.v, .slice p x.d.length k])) (set4 w2 g a b c d) :=
  ⟨p, k, rfl, hp, hB.grown (grown_set4 _ _ _ _ _ _) hB.size (fun k e => by cases e; exact hg), hs.tag (grown_set4 _ _ _ _ _ _) hb (by decide)⟩

/-- What an Allocation-Retention-Priority of level x is. -/
def arpA (x : Int) : Avp := mk 16 (allB [mk 17 (be32 x)])

theorem cs_one (x : Avp) (p : Option Addr) (k : Nat) : (#[Value.int .u32 x.c, .int .u8 x.f, .int .u32 x.v, .slice p x.d.length k] : Array Value).toList = cellsOf [⟨x, p, k⟩] := rfl

set_option maxHeartbeats 1000000 in
theorem arp_calls (x : Int) (w : World) (hG : Globals w) (hx0 : 0 ≤ x) (hx1 : x < 4294967296) :
    Calls Ybad.prog 19 #[.int .u32 x] w fun e w' => GaveAvp w (arpA x) e w' := by
  obtain ⟨a0, a1, a2⟩ := hG 16 (by decide) (by decide)
  obtain ⟨b0, b1, b2⟩ := hG 17 (by decide) (by decide)
  have n16 : (16 : Nat) < w.heap.size := block_lt_of_cell a0
  have n17 : (17 : Nat) < w.heap.size := block_lt_of_cell b0
  have n1 : ¬ w.heap.size = 16 := by omega
  have n2 : ¬ w.heap.size = 17 := by omega
  have HG : Hid (Globals w) := hG
  clear hG
  go_enter Ybad.func19, Ybad.ntmps19
  go_wp2_with fail
  go_region_held3 (fun w' => w'.cell? ⟨16, 0, none⟩ = some (.int .u32 (gc 16)) ∧ w'.cell? ⟨16, 1, none⟩ = some (.int .u32 (gv 16)) ∧ w'.cell? ⟨16, 2, none⟩ = some (.bool (gm 16)) ∧
      w'.cell? ⟨17, 0, none⟩ = some (.int .u32 (gc 17)) ∧ w'.cell? ⟨17, 1, none⟩ = some (.int .u32 (gv 17)) ∧ w'.cell? ⟨17, 2, none⟩ = some (.bool (gm 17))) (go_keep)
    (first
      | (go_at_call 17; refine (unsigned32_gave 17 x _ hx0 hx1).mono ?_; rintro e w1 ⟨p1, k1, rfl, hp1, hbel1, hs1⟩; have B1 : Below w.heap.size w w1 := (((Below.refl _ _).alloc (Nat.le_refl _) _).drew).trans (hbel1.mono (by simp)); have G1 := HG.out.later B1; obtain ⟨u0, u1, u2⟩ := G1 16 (by decide) (by decide); obtain ⟨v0, v1, v2⟩ := G1 17 (by decide) (by decide))
      | (go_at_call 11; refine (grouped_gave 16 w1.heap.size _ [mk 17 (be32 x)] _ (at_of_alloc w1 [⟨mk 17 (be32 x), p1, k1⟩] _ _ rfl rfl ?_ ?_ ?_) ?_ ?_ ?_).mono ?_; (intro r hr; simp at hr; subst hr; exact ⟨hp1, hs1⟩); (simp); (simp); (intro a ha; simp at ha; subst ha; exact mk_ok _ _ (by simp [be32])); (simp); (have h9 := wire_le (mk 17 (be32 x)); rw [mk_len, be32_len] at h9; simp only [wires_cons, wires_nil]; omega); rintro e w2 ⟨p2, k2, rfl, hp2, hbel2, hs2⟩; have B2 : Below w.heap.size w w2 := (B1.alloc B1.size _).trans (hbel2.mono (by have := B1.size; simp; omega)); have G2 := HG.out.later B2; obtain ⟨u0', u1', u2'⟩ := G2 16 (by decide) (by decide); obtain ⟨v0', v1', v2'⟩ := G2 17 (by decide) (by decide); have B3 : Below (w.alloc (.cells #[.int .u32 0, .int .u8 0, .int .u32 0, .slice none 0 0] 29)).heap.size (w.alloc (.cells #[.int .u32 0, .int .u8 0, .int .u32 0, .slice none 0 0] 29)) w2 := (((Below.refl _ _).drew.trans hbel1).alloc (hbel1.size) _).trans (hbel2.mono (by have := hbel1.size; simp at this; simp; omega)); have r2 := res4 B3 (heap_alloc_new w _); obtain ⟨⟨z0, z1, z2, z3⟩, y0, y1, y2, y3⟩ := r2))
  go_wp2_with fail
  refine bodyPost_ret (v := .agg #[.int .u32 (arpA x).c, .int .u8 (arpA x).f, .int .u32 (arpA x).v, .slice p2 (arpA x).d.length k2]) (by simp [results, Ybad.results19, go_sem, z0, z1, z2, z3, arpA]) rfl ?_
  exact gave_end B2 (Nat.le_refl _) ((B3.block _ (by simp)).trans (heap_alloc_new w _)) hp2 hs2 _ _ _ _

end Go.Proofs.YbulkaroiDoor
