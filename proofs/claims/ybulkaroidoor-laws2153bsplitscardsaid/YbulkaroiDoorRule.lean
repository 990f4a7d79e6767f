import Derived.Test.YbulkaroiDoorTo
import Derived.Deep.DeepCutAuto
set_option linter.unusedVariables false
namespace Go.Proofs.YbulkaroiDoor
open Go.RowKit Go.Deep

/-- Strings behind a slice. -/
def StrsAt (w : World) (B : Nat) (sp : Option Addr) (ss : List ByteArray) : Prop :=
  (sp = none → ss = []) ∧ ∀ ad, sp = some ad → ss ≠ [] → ∃ b o, ad = ⟨b, o, none⟩ ∧ b < B ∧ ∀ j s, ss[j]? = some s → w.cell? ⟨b, o + j, none⟩ = some (.string s)

/-- A pointer to a redirection, or nil. -/
def OptR (w : World) (B : Nat) (v : Value) (o : Option (ByteArray × Bool)) : Prop :=
  (o = none ∧ v = .pointer none) ∨ ∃ b u s, o = some (u, s) ∧ v = .pointer (some ⟨b, 0, none⟩) ∧ w.cell? ⟨b, 1, none⟩ = some (.string u) ∧ w.cell? ⟨b, 2, none⟩ = some (.bool s) ∧ b < B

/-- A rule as data. -/
structure Rule where
  name : ByteArray
  prec : Int
  rg : Int
  flows : List ByteArray
  media : Bool
  fs : Option Int
  qci : Int
  arp : Option Int
  mu : Option Int
  md : Option Int
  gu : Option Int
  gd : Option Int
  red : Option (ByteArray × Bool)

def flowA (fi : Option Int) (s : ByteArray) : Avp := mk 5 (allB ([mk 3 (strB s)] ++ optA 4 fi))
def arpL : Option Int → List Avp
  | none => []
  | some x => [arpA x]
def redL : Option (ByteArray × Bool) → List Avp
  | none => []
  | some (u, s) => [redA u s]
def qosL (r : Rule) : List Avp := [mk 7 (be32 r.qci)] ++ optA 8 r.mu ++ optA 9 r.md ++ optA 10 r.gu ++ optA 11 r.gd ++ arpL r.arp
def ruleL (r : Rule) (fi : Option Int) : List Avp :=
  [mk 1 (strB r.name), mk 2 (be32 r.rg)] ++ r.flows.map (flowA fi) ++ optA 6 r.fs ++ [mk 12 (allB (qosL r)), mk 13 (be32 r.prec)] ++ redL r.red
/-- The Charging-Rule-Definition of a rule. -/
def ruleA (r : Rule) (fi : Option Int) : Avp := mk 14 (allB (ruleL r fi))


theorem optA_len (g : Nat) (o : Option Int) : (optA g o).length ≤ 1 := by cases o <;> simp [optA]
theorem arpL_len (o : Option Int) : (arpL o).length ≤ 1 := by cases o <;> simp [arpL]

theorem optA_ok (g : Nat) (o : Option Int) : ∀ a ∈ optA g o, AvpOk a := by
  cases o with
  | none => simp [optA]
  | some x => intro a ha; simp [optA] at ha; subst ha; exact mk_ok _ _ (by simp [be32])
theorem optA_wires (g : Nat) (o : Option Int) : wires (optA g o) ≤ 19 := by
  cases o with
  | none => simp [optA, wires]
  | some x =>
    have h1 := wire_le (mk g (be32 x))
    rw [mk_len, be32_len] at h1
    simp only [optA, wires_cons, wires_nil]; omega
theorem arpA_d (x : Int) : (arpA x).d.length ≤ 19 := by
  have h1 := wire_le (mk 17 (be32 x))
  rw [mk_len, be32_len] at h1
  simp only [arpA, mk_len, allB_length, wires_cons, wires_nil]; omega
theorem arpL_ok (o : Option Int) : ∀ a ∈ arpL o, AvpOk a := by
  cases o with
  | none => simp [arpL]
  | some x =>
    intro a ha
    simp [arpL] at ha
    subst ha
    exact mk_ok _ _ (by have := arpA_d x; simp only [arpA, mk_len] at this; omega)
theorem arpL_wires (o : Option Int) : wires (arpL o) ≤ 34 := by
  cases o with
  | none => simp [arpL, wires]
  | some x =>
    have h1 := wire_le (arpA x)
    have h2 := arpA_d x
    simp only [arpL, wires_cons, wires_nil]; omega
theorem qos_ok (r : Rule) : ∀ a ∈ [mk 7 (be32 r.qci)] ++ optA 8 r.mu ++ optA 9 r.md ++ optA 10 r.gu ++ optA 11 r.gd ++ arpL r.arp, AvpOk a := by
  intro a ha
  simp only [List.mem_append] at ha
  rcases ha with ((((ha | ha) | ha) | ha) | ha) | ha
  · simp at ha; subst ha; exact mk_ok _ _ (by simp [be32])
  · exact optA_ok _ _ a ha
  · exact optA_ok _ _ a ha
  · exact optA_ok _ _ a ha
  · exact optA_ok _ _ a ha
  · exact arpL_ok _ a ha
theorem qos_wires (r : Rule) : wires ([mk 7 (be32 r.qci)] ++ optA 8 r.mu ++ optA 9 r.md ++ optA 10 r.gu ++ optA 11 r.gd ++ arpL r.arp) ≤ 1000 := by
  have h1 := optA_wires 8 r.mu
  have h2 := optA_wires 9 r.md
  have h3 := optA_wires 10 r.gu
  have h4 := optA_wires 11 r.gd
  have h5 := arpL_wires r.arp
  have h6 := wire_le (mk 7 (be32 r.qci))
  rw [mk_len, be32_len] at h6
  simp only [wires_append, wires_cons, wires_nil]; omega

/-- The thirteen cells of a rule's box. -/
theorem cells13 {w : World} {g : Nat} {c0 c1 c2 c3 c4 c5 c6 c7 c8 c9 c10 c11 c12 : Value} {t : TypeId} (hb : w.heap[g]? = some (.cells #[c0, c1, c2, c3, c4, c5, c6, c7, c8, c9, c10, c11, c12] t (0, 0))) :
    w.cell? ⟨g, 0, none⟩ = some c0 ∧ w.cell? ⟨g, 1, none⟩ = some c1 ∧ w.cell? ⟨g, 2, none⟩ = some c2 ∧ w.cell? ⟨g, 3, none⟩ = some c3 ∧ w.cell? ⟨g, 4, none⟩ = some c4 ∧ w.cell? ⟨g, 5, none⟩ = some c5 ∧ w.cell? ⟨g, 6, none⟩ = some c6 ∧ w.cell? ⟨g, 7, none⟩ = some c7 ∧ w.cell? ⟨g, 8, none⟩ = some c8 ∧ w.cell? ⟨g, 9, none⟩ = some c9 ∧ w.cell? ⟨g, 10, none⟩ = some c10 ∧ w.cell? ⟨g, 11, none⟩ = some c11 ∧ w.cell? ⟨g, 12, none⟩ = some c12 := by
  simp [World.cell?, hb]

/-- Is there a value? (a plain name, that the walk leaves alone) -/
def hasV {α : Type} (o : Option α) : Bool := o.isSome
theorem neq_optU {w : World} {B : Nat} {v : Value} {o : Option Int} (h : OptU w B v o) (W : World) : (binOp .neq 54 v (.pointer none)).run Ybad.prog W = .ok (.bool (hasV o)) W := by
  rcases h with ⟨rfl, rfl⟩ | ⟨b, x, rfl, rfl, _⟩
  · kernel_rfl
  · kernel_rfl
theorem neq_optR {w : World} {B : Nat} {v : Value} {o : Option (ByteArray × Bool)} (h : OptR w B v o) (W : World) : (binOp .neq 57 v (.pointer none)).run Ybad.prog W = .ok (.bool (hasV o)) W := by
  rcases h with ⟨rfl, rfl⟩ | ⟨b, u, s, rfl, rfl, _⟩
  · kernel_rfl
  · kernel_rfl

set_option maxRecDepth 100000 in
set_option maxHeartbeats 4000000 in
theorem rule_calls (r : Rule) (fi : Option Int) (afi afs aarp amu amd agu agd ared : Option Addr) (fp : Option Addr) (fk : Nat) (w : World) (hG : Globals w)
    (hfl : StrsAt w w.heap.size fp r.flows) (hfi : OptU w w.heap.size (.pointer afi) fi) (hfs : OptU w w.heap.size (.pointer afs) r.fs) (harp : OptU w w.heap.size (.pointer aarp) r.arp) (hmu : OptU w w.heap.size (.pointer amu) r.mu) (hmd : OptU w w.heap.size (.pointer amd) r.md) (hgu : OptU w w.heap.size (.pointer agu) r.gu) (hgd : OptU w w.heap.size (.pointer agd) r.gd) (hred : OptR w w.heap.size (.pointer ared) r.red)
    (n1 : 0 ≤ r.prec) (n2 : r.prec < 4294967296) (n3 : 0 ≤ r.rg) (n4 : r.rg < 4294967296) (n5 : 0 ≤ r.qci) (n6 : r.qci < 4294967296) (hNam : r.name.size ≤ 70000) (hFln : r.flows.length ≤ 4096) (hFsz : ∀ s ∈ r.flows, s.size ≤ 70000) (hRed : ∀ u s, r.red = some (u, s) → u.size ≤ 70000)
    (hOk : ∀ a ∈ ruleL r fi, AvpOk a) (hLn : (ruleL r fi).length ≤ 100000000) (hWr : wires (ruleL r fi) ≤ 90000000) :
    Calls Ybad.prog 9 #[.agg #[.string r.name, .int .u32 r.prec, .int .u32 r.rg, .slice fp r.flows.length fk, .bool r.media, .pointer afs, .int .u32 r.qci, .pointer aarp, .pointer amu, .pointer amd, .pointer agu, .pointer agd, .pointer ared], .pointer afi] w fun e w' => GaveAvp w (ruleA r fi) e w' := by
  have HG : Hid (Globals w) := hG
  have HH : Hid (OptU w w.heap.size (.pointer afi) fi ∧ OptU w w.heap.size (.pointer afs) r.fs ∧ OptU w w.heap.size (.pointer aarp) r.arp ∧ OptU w w.heap.size (.pointer amu) r.mu ∧ OptU w w.heap.size (.pointer amd) r.md ∧ OptU w w.heap.size (.pointer agu) r.gu ∧ OptU w w.heap.size (.pointer agd) r.gd ∧ OptR w w.heap.size (.pointer ared) r.red) := ⟨hfi, hfs, harp, hmu, hmd, hgu, hgd, hred⟩
  have HF : Hid (StrsAt w w.heap.size fp r.flows) := hfl
  clear hfl hfi hfs harp hmu hmd hgu hgd hred hG
  have HOKS : Hid (∀ a ∈ ruleL r fi, AvpOk a) := hOk
  have B0 : Below w.heap.size w ((w.alloc (.cells #[.string r.name, .int .u32 r.prec, .int .u32 r.rg, .slice fp r.flows.length fk, .bool r.media, .pointer afs, .int .u32 r.qci, .pointer aarp, .pointer amu, .pointer amd, .pointer agu, .pointer agd, .pointer ared] 59)).alloc (.cells #[.int .u32 0, .int .u8 0, .int .u32 0, .slice none 0 0] 29)) := ((Below.refl _ _).alloc (Nat.le_refl _) _).alloc (by simp) _
  have HBOX : Hid (((w.alloc (.cells #[.string r.name, .int .u32 r.prec, .int .u32 r.rg, .slice fp r.flows.length fk, .bool r.media, .pointer afs, .int .u32 r.qci, .pointer aarp, .pointer amu, .pointer amd, .pointer agu, .pointer agd, .pointer ared] 59)).alloc (.cells #[.int .u32 0, .int .u8 0, .int .u32 0, .slice none 0 0] 29)).heap[w.heap.size]? = some (.cells #[.string r.name, .int .u32 r.prec, .int .u32 r.rg, .slice fp r.flows.length fk, .bool r.media, .pointer afs, .int .u32 r.qci, .pointer aarp, .pointer amu, .pointer amd, .pointer agu, .pointer agd, .pointer ared] 59)) := heap_alloc_old2 _ _ _
  have HRES : Hid (((w.alloc (.cells #[.string r.name, .int .u32 r.prec, .int .u32 r.rg, .slice fp r.flows.length fk, .bool r.media, .pointer afs, .int .u32 r.qci, .pointer aarp, .pointer amu, .pointer amd, .pointer agu, .pointer agd, .pointer ared] 59)).alloc (.cells #[.int .u32 0, .int .u8 0, .int .u32 0, .slice none 0 0] 29)).heap[w.heap.size + 1]? = some (.cells #[.int .u32 0, .int .u8 0, .int .u32 0, .slice none 0 0] 29)) := heap_alloc_new2 _ _ _
  have hz0 : ((w.alloc (.cells #[.string r.name, .int .u32 r.prec, .int .u32 r.rg, .slice fp r.flows.length fk, .bool r.media, .pointer afs, .int .u32 r.qci, .pointer aarp, .pointer amu, .pointer amd, .pointer agu, .pointer agd, .pointer ared] 59)).alloc (.cells #[.int .u32 0, .int .u8 0, .int .u32 0, .slice none 0 0] 29)).heap.size = w.heap.size + 1 + 1 := by simp
  go_enter Ybad.func9, Ybad.ntmps9
  go_wp2_with fail
  generalize ((w.alloc (.cells #[.string r.name, .int .u32 r.prec, .int .u32 r.rg, .slice fp r.flows.length fk, .bool r.media, .pointer afs, .int .u32 r.qci, .pointer aarp, .pointer amu, .pointer amd, .pointer agu, .pointer agd, .pointer ared] 59)).alloc (.cells #[.int .u32 0, .int .u8 0, .int .u32 0, .slice none 0 0] 29)) = w0 at *
  have HZ0 : Hid (w0.heap.size = w.heap.size + 1 + 1) := hz0
  have hz00 : w.heap.size ≤ w0.heap.size := by omega
  have hzb : w.heap.size < w0.heap.size := by omega
  have hzr : w.heap.size + 1 < w0.heap.size := by omega
  clear hz0
  have D0 : Below w0.heap.size w0 w0 := Below.refl _ _
  have Bq := B0.trans (D0.mono hz00)
  have GGq := HG.out.later Bq
  have GHq : Hid (Globals w0) := GGq
  obtain ⟨gqx1a, gqx1b, gqx1c⟩ := GGq 1 (by decide) (by decide)
  have hlqx1 : 1 < w0.heap.size := block_lt_of_cell gqx1a
  obtain ⟨gqx2a, gqx2b, gqx2c⟩ := GGq 2 (by decide) (by decide)
  have hlqx2 : 2 < w0.heap.size := block_lt_of_cell gqx2a
  clear GGq
  have Xq := cells13 ((D0.block _ hzb).trans HBOX.out)
  obtain ⟨xqx0, -, xqx2, -, -, -, -, -, -, -, -, -, -⟩ := Xq
  go_region_held3 (fun w' => w'.cell? ⟨1, 0, none⟩ = some (.int .u32 (gc 1)) ∧ w'.cell? ⟨1, 1, none⟩ = some (.int .u32 (gv 1)) ∧ w'.cell? ⟨1, 2, none⟩ = some (.bool (gm 1)) ∧ w'.cell? ⟨2, 0, none⟩ = some (.int .u32 (gc 2)) ∧ w'.cell? ⟨2, 1, none⟩ = some (.int .u32 (gv 2)) ∧ w'.cell? ⟨2, 2, none⟩ = some (.bool (gm 2)) ∧ w'.cell? ⟨w.heap.size, 0, none⟩ = some (.string r.name) ∧ w'.cell? ⟨w.heap.size, 2, none⟩ = some (.int .u32 r.rg)) (go_keep)
    (first
      | (go_at_call 16; (with_reducible refine (octetString_gave 1 r.name _).mono ?_); rintro e w1 ⟨p1, k1, rfl, hp1, hbel1, hs1⟩; have D1 : Below w0.heap.size w0 w1 := (Below.refl _ _).drew.trans hbel1; have Ba := B0.trans (D1.mono hz00); have GGa := HG.out.later Ba; have GHa : Hid (Globals w1) := GGa; obtain ⟨gax1a, gax1b, gax1c⟩ := GGa 1 (by decide) (by decide); have hlax1 : 1 < w1.heap.size := block_lt_of_cell gax1a; obtain ⟨gax2a, gax2b, gax2c⟩ := GGa 2 (by decide) (by decide); have hlax2 : 2 < w1.heap.size := block_lt_of_cell gax2a; clear GGa; have Xa := cells13 ((D1.block _ hzb).trans HBOX.out); obtain ⟨xax0, -, xax2, -, -, -, -, -, -, -, -, -, -⟩ := Xa)
      | (go_at_call 17; (with_reducible refine (unsigned32_gave 2 r.rg _ n3 n4).mono ?_); rintro e w2 ⟨p2, k2, rfl, hp2, hbel2, hs2⟩; have D2 : Below w0.heap.size w0 w2 := D1.trans (hbel2.mono D1.size); have Bb := B0.trans (D2.mono hz00); have GGb := HG.out.later Bb; have GHb : Hid (Globals w2) := GGb; obtain ⟨gbx1a, gbx1b, gbx1c⟩ := GGb 1 (by decide) (by decide); have hlbx1 : 1 < w2.heap.size := block_lt_of_cell gbx1a; obtain ⟨gbx2a, gbx2b, gbx2c⟩ := GGb 2 (by decide) (by decide); have hlbx2 : 2 < w2.heap.size := block_lt_of_cell gbx2a; clear GGb; have Xb := cells13 ((D2.block _ hzb).trans HBOX.out); obtain ⟨xbx0, -, xbx2, -, -, -, -, -, -, -, -, -, -⟩ := Xb))
  have L3 : Lst (w2.alloc (.cells #[.int .u32 (mk 1 (strB r.name)).c, .int .u8 (mk 1 (strB r.name)).f, .int .u32 (mk 1 (strB r.name)).v, .slice p1 (mk 1 (strB r.name)).d.length k1, .int .u32 (mk 2 (be32 r.rg)).c, .int .u8 (mk 2 (be32 r.rg)).f, .int .u32 (mk 2 (be32 r.rg)).v, .slice p2 (mk 2 (be32 r.rg)).d.length k2] 29)) w0.heap.size (.slice (some ⟨w2.heap.size, 0, none⟩) 2 2) [mk 1 (strB r.name), mk 2 (be32 r.rg)] :=
    lst_of_alloc w2 _ [⟨mk 1 (strB r.name), p1, k1⟩, ⟨mk 2 (be32 r.rg), p2, k2⟩] _ _ 2 rfl rfl rfl D2.size (by
      intro q hq
      simp at hq
      rcases hq with rfl | rfl
      · exact ⟨hp1, hs1.later hbel2⟩
      · exact ⟨hp2, hs2⟩) (by decide)
  have D3 := D2.alloc D2.size (.cells #[.int .u32 (mk 1 (strB r.name)).c, .int .u8 (mk 1 (strB r.name)).f, .int .u32 (mk 1 (strB r.name)).v, .slice p1 (mk 1 (strB r.name)).d.length k1, .int .u32 (mk 2 (be32 r.rg)).c, .int .u8 (mk 2 (be32 r.rg)).f, .int .u32 (mk 2 (be32 r.rg)).v, .slice p2 (mk 2 (be32 r.rg)).d.length k2] 29)
  generalize w2.alloc (.cells #[.int .u32 (mk 1 (strB r.name)).c, .int .u8 (mk 1 (strB r.name)).f, .int .u32 (mk 1 (strB r.name)).v, .slice p1 (mk 1 (strB r.name)).d.length k1, .int .u32 (mk 2 (be32 r.rg)).c, .int .u8 (mk 2 (be32 r.rg)).f, .int .u32 (mk 2 (be32 r.rg)).v, .slice p2 (mk 2 (be32 r.rg)).d.length k2] 29) = w3 at *
  have Bc := B0.trans (D3.mono hz00)
  have GGc := HG.out.later Bc
  have GHc : Hid (Globals w3) := GGc
  clear GGc
  have Xc := cells13 ((D3.block _ hzb).trans HBOX.out)
  obtain ⟨-, -, -, xcx3, -, -, -, -, -, -, -, -, -⟩ := Xc
  generalize w2.heap.size = gq at *
  go_wp2_with fail
  clear gqx1a gqx1b gqx1c hlqx1 gqx2a gqx2b gqx2c hlqx2 xqx0 xqx2 gax1a gax1b gax1c hlax1 gax2a gax2b gax2c hlax2 xax0 xax2 gbx1a gbx1b gbx1c hlbx1 gbx2a gbx2b gbx2c hlbx2 xbx0 xbx2 xcx3
  go_loopw [5, 22] (fun v5 i wr => ∃ k : Nat, k ≤ r.flows.length ∧ i = .int .i64 k ∧ Lst wr w0.heap.size v5 ([mk 1 (strB r.name), mk 2 (be32 r.rg)] ++ (r.flows.take k).map (flowA fi)) ∧ Below w0.heap.size w0 wr) (fun _ i _ => r.flows.length - (intOf i).toNat)
  case atStart => exact ⟨0, Nat.zero_le _, rfl, by simpa using L3, D3⟩
  case round =>
    obtain ⟨k, hk, rfl, L4, D4⟩ := hrel
    have Bd := B0.trans (D4.mono hz00)
    have GGd := HG.out.later Bd
    have GHd : Hid (Globals wr) := GGd
    obtain ⟨gdx3a, gdx3b, gdx3c⟩ := GGd 3 (by decide) (by decide)
    have hldx3 : 3 < wr.heap.size := block_lt_of_cell gdx3a
    obtain ⟨gdx4a, gdx4b, gdx4c⟩ := GGd 4 (by decide) (by decide)
    have hldx4 : 4 < wr.heap.size := block_lt_of_cell gdx4a
    obtain ⟨gdx5a, gdx5b, gdx5c⟩ := GGd 5 (by decide) (by decide)
    have hldx5 : 5 < wr.heap.size := block_lt_of_cell gdx5a
    clear GGd
    by_cases hlt : k < r.flows.length
    · have hget : r.flows[k]? = some r.flows[k] := List.getElem?_eq_getElem hlt
      have hmem := hFsz r.flows[k] (List.getElem_mem hlt)
      have hsn := take_snoc r.flows k r.flows[k] hget
      have hfa : ∃ fb fo, fp = some ⟨fb, fo, none⟩ ∧ wr.cell? ⟨fb, fo + k, none⟩ = some (.string r.flows[k]) := by
        cases hfp : fp with
        | none => have h9 := HF.out.1 hfp; rw [h9] at hlt; simp at hlt
        | some ad =>
          obtain ⟨fb, fo, e1, e2, e3⟩ := HF.out.2 ad hfp (fun e => by rw [e] at hlt; simp at hlt)
          subst e1
          exact ⟨fb, fo, rfl, (Bd.cell (p := ⟨fb, fo + k, none⟩) e2).trans (e3 k _ hget)⟩
      obtain ⟨fb, fo, hfp, hfc⟩ := hfa
      generalize r.flows[k] = s at *
      have HSN : Hid (r.flows.take (k + 1) = r.flows.take k ++ [s]) := hsn
      clear hsn hget
      subst hfp
      have hl4 : ([mk 1 (strB r.name), mk 2 (be32 r.rg)] ++ (r.flows.take k).map (flowA fi)).length ≤ 100000 := by simp; omega
      generalize hLS : [mk 1 (strB r.name), mk 2 (be32 r.rg)] ++ (r.flows.take k).map (flowA fi) = LS at *
      have HLS : Hid ([mk 1 (strB r.name), mk 2 (be32 r.rg)] ++ (r.flows.take k).map (flowA fi) = LS) := hLS
      clear hLS
      have hfin : [mk 1 (strB r.name), mk 2 (be32 r.rg)] ++ (r.flows.take (k + 1)).map (flowA fi) = LS ++ [flowA fi s] := by rw [HSN.out, ← HLS.out]; simp
      have HFIN : Hid ([mk 1 (strB r.name), mk 2 (be32 r.rg)] ++ (r.flows.take (k + 1)).map (flowA fi) = LS ++ [flowA fi s]) := hfin
      clear hfin
      go_wp2_with fail
      refine (octetString_gave 3 s wr).mono ?_
      rintro e w4 ⟨p4, k4, rfl, hp4, hbel4, hs4⟩
      have L5 := L4.later hbel4
      have D5 := D4.trans (hbel4.mono D4.size)
      have Be := B0.trans (D5.mono hz00)
      have GGe := HG.out.later Be
      have GHe : Hid (Globals w4) := GGe
      obtain ⟨gex3a, gex3b, gex3c⟩ := GGe 3 (by decide) (by decide)
      have hlex3 : 3 < w4.heap.size := block_lt_of_cell gex3a
      obtain ⟨gex4a, gex4b, gex4c⟩ := GGe 4 (by decide) (by decide)
      have hlex4 : 4 < w4.heap.size := block_lt_of_cell gex4a
      obtain ⟨gex5a, gex5b, gex5c⟩ := GGe 5 (by decide) (by decide)
      have hlex5 : 5 < w4.heap.size := block_lt_of_cell gex5a
      clear GGe
      have at5 : AvpsAt (w4.alloc (.cells #[.int .u32 (mk 3 (strB s)).c, .int .u8 (mk 3 (strB s)).f, .int .u32 (mk 3 (strB s)).v, .slice p4 (mk 3 (strB s)).d.length k4] 29)) w4.heap.size [mk 3 (strB s)] := at_of_alloc w4 [⟨mk 3 (strB s), p4, k4⟩] _ _ rfl rfl (by intro q hq; simp at hq; subst hq; exact ⟨hp4, hs4⟩) (by simp) (by simp)
      rcases HH.out.1 with ⟨rfl, hpf⟩ | ⟨fib, fx, rfl, hpf, hfc0, hfc1, hfc2, hfc3⟩ <;> (simp only [Value.pointer.injEq] at hpf; subst hpf)
      · go_wp2_with fail
        refine (grouped_gave 5 w4.heap.size 1 [mk 3 (strB s)] _ at5 ?_ ?_ ?_).mono ?_
        · intro a ha; simp at ha; subst ha; exact mk_ok _ _ (by rw [strB_len]; omega)
        · simp
        · have h9 := wire_le (mk 3 (strB s)); rw [mk_len, strB_len] at h9; simp only [wires_cons, wires_nil]; omega
        rintro e w5 ⟨p5, k5, rfl, hp5, hbel5, hs5⟩
        have E5 : Below w4.heap.size w4 w5 := ((Below.refl _ _).alloc (Nat.le_refl _) _).trans (hbel5.mono (by simp))
        have L6 := L5.later E5
        have D6 := D5.trans (E5.mono D5.size)
        have hz6 := D6.size
        go_wp2_with (at_builtin; refine wpList_append_avps ?_ (.tmp 40) (.tmp 44) ?_ w0.heap.size _ LS ?_ (L6.later ((Below.refl _ _).alloc (Nat.le_refl _) _)) ⟨w5.heap.size, 0, none⟩ 1 1 [⟨mk 5 (allB [mk 3 (strB s)]), p5, k5⟩] ?_ ?_ (news_of_alloc w5 [⟨mk 5 (allB [mk 3 (strB s)]), p5, k5⟩] _ _ rfl rfl) ?_ ?_ ?_ ?_; rfl; rfl; rfl; rfl; rfl; (intro q hq; simp at hq; subst hq; exact ⟨hp5, hs5.later ((Below.refl _ _).alloc (Nat.le_refl _) _)⟩); omega; (simp; omega); intro v7 w7 g7)
        go_roundw
        case rel =>
          refine ⟨k + 1, by omega, by go_num, ?_, ?_⟩
          · rw [HFIN.out]; exact g7.lst
          · exact (D6.alloc D6.size _).trans (g7.below (L6.later ((Below.refl _ _).alloc (Nat.le_refl _) _)) (by simp; omega))
        case measure => simp [intOf]; omega
      · go_wp2_with fail
        have L5i := lst_of_alloc w4 w4.heap.size [⟨mk 3 (strB s), p4, k4⟩] _ #[.int .u32 (mk 3 (strB s)).c, .int .u8 (mk 3 (strB s)).f, .int .u32 (mk 3 (strB s)).v, .slice p4 (mk 3 (strB s)).d.length k4] 1 rfl rfl rfl (Nat.le_refl _) (by intro q hq; simp at hq; subst hq; exact ⟨hp4, hs4⟩) (by simp)
        have D5i := D5.alloc D5.size (.cells #[.int .u32 (mk 3 (strB s)).c, .int .u8 (mk 3 (strB s)).f, .int .u32 (mk 3 (strB s)).v, .slice p4 (mk 3 (strB s)).d.length k4] 29)
        have E5i := (Below.refl w4.heap.size w4).alloc (Nat.le_refl _) (.cells #[.int .u32 (mk 3 (strB s)).c, .int .u8 (mk 3 (strB s)).f, .int .u32 (mk 3 (strB s)).v, .slice p4 (mk 3 (strB s)).d.length k4] 29)
        have hz5i : w4.heap.size ≤ (w4.alloc (.cells #[.int .u32 (mk 3 (strB s)).c, .int .u8 (mk 3 (strB s)).f, .int .u32 (mk 3 (strB s)).v, .slice p4 (mk 3 (strB s)).d.length k4] 29)).heap.size := by simp
        generalize w4.alloc (.cells #[.int .u32 (mk 3 (strB s)).c, .int .u8 (mk 3 (strB s)).f, .int .u32 (mk 3 (strB s)).v, .slice p4 (mk 3 (strB s)).d.length k4] 29) = w4i at *
        have Bf := B0.trans (D5i.mono hz00)
        have GGf := HG.out.later Bf
        have GHf : Hid (Globals w4i) := GGf
        obtain ⟨gfx4a, gfx4b, gfx4c⟩ := GGf 4 (by decide) (by decide)
        have hlfx4 : 4 < w4i.heap.size := block_lt_of_cell gfx4a
        obtain ⟨gfx5a, gfx5b, gfx5c⟩ := GGf 5 (by decide) (by decide)
        have hlfx5 : 5 < w4i.heap.size := block_lt_of_cell gfx5a
        clear GGf
        have cfi : w4i.cell? ⟨fib, 0, none⟩ = some (.int .u32 fx) := (Bf.cell (p := ⟨fib, 0, none⟩) hfc1).trans hfc0
        go_region_held3 (fun w' => w'.cell? ⟨4, 0, none⟩ = some (.int .u32 (gc 4)) ∧ w'.cell? ⟨4, 1, none⟩ = some (.int .u32 (gv 4)) ∧ w'.cell? ⟨4, 2, none⟩ = some (.bool (gm 4)) ∧ w'.cell? ⟨fib, 0, none⟩ = some (.int .u32 fx)) (go_keep)
          (first
            | (go_at_call 17; (with_reducible refine (unsigned32_gave 4 fx _ hfc2 hfc3).mono ?_); rintro e w4j ⟨p4j, k4j, rfl, hp4j, hbel4j, hs4j⟩; have F4j : Below w4i.heap.size w4i w4j := (Below.refl _ _).drew.trans hbel4j; have D5j := D5i.trans (F4j.mono D5i.size); have E5j := E5i.trans (F4j.mono hz5i); have L5j := L5i.later F4j; have Bg := B0.trans (D5j.mono hz00); have GGg := HG.out.later Bg; have GHg : Hid (Globals w4j) := GGg; obtain ⟨ggx4a, ggx4b, ggx4c⟩ := GGg 4 (by decide) (by decide); have hlgx4 : 4 < w4j.heap.size := block_lt_of_cell ggx4a; obtain ⟨ggx5a, ggx5b, ggx5c⟩ := GGg 5 (by decide) (by decide); have hlgx5 : 5 < w4j.heap.size := block_lt_of_cell ggx5a; clear GGg; have cfj : w4j.cell? ⟨fib, 0, none⟩ = some (.int .u32 fx) := (Bg.cell (p := ⟨fib, 0, none⟩) hfc1).trans hfc0; have hlj : fib < w4j.heap.size := block_lt_of_cell cfj)
            | (refine step_append_avps ?_ (.tmp 32) (.tmp 38) ?_ w4.heap.size _ [mk 3 (strB s)] ?_ (L5j.later ((Below.refl _ _).alloc (Nat.le_refl _) _)) ⟨w4j.heap.size, 0, none⟩ 1 1 [⟨mk 4 (be32 fx), p4j, k4j⟩] ?_ ?_ (news_of_alloc w4j [⟨mk 4 (be32 fx), p4j, k4j⟩] _ _ rfl rfl) ?_ ?_ ?_ ?_; rfl; rfl; rfl; rfl; rfl; (intro q hq; simp at hq; subst hq; exact ⟨hp4j, hs4j.later ((Below.refl _ _).alloc (Nat.le_refl _) _)⟩); (simp); (have h8 := E5j.size; simp; omega); intro v4k w4k g4k; have E5k := (E5j.alloc E5j.size _).trans (g4k.below (L5j.later ((Below.refl _ _).alloc (Nat.le_refl _) _)) (by have h8 := E5j.size; simp; omega)); have D5k := D5.trans (E5k.mono D5.size); have Bh := B0.trans (D5k.mono hz00); have GGh := HG.out.later Bh; have GHh : Hid (Globals w4k) := GGh; obtain ⟨ghx4a, ghx4b, ghx4c⟩ := GGh 4 (by decide) (by decide); have hlhx4 : 4 < w4k.heap.size := block_lt_of_cell ghx4a; obtain ⟨ghx5a, ghx5b, ghx5c⟩ := GGh 5 (by decide) (by decide); have hlhx5 : 5 < w4k.heap.size := block_lt_of_cell ghx5a; clear GGh; have cfk : w4k.cell? ⟨fib, 0, none⟩ = some (.int .u32 fx) := (Bh.cell (p := ⟨fib, 0, none⟩) hfc1).trans hfc0))
        have L5k := g4k.lst
        obtain ⟨gk, capk, hvk, at5k, hgk, _⟩ := L5k.at_ (by simp)
        subst hvk
        go_wp2_with fail
        refine (grouped_gave 5 gk capk _ w4k at5k ?_ ?_ ?_).mono ?_
        · intro a ha
          simp at ha
          rcases ha with rfl | rfl
          · exact mk_ok _ _ (by rw [strB_len]; omega)
          · exact mk_ok _ _ (by simp [be32])
        · simp
        · have h9 := wire_le (mk 3 (strB s))
          have h8 := wire_le (mk 4 (be32 fx))
          rw [mk_len, strB_len] at h9
          rw [mk_len, be32_len] at h8
          simp only [List.map_cons, List.map_nil, List.cons_append, List.nil_append, wires_cons, wires_nil]; omega
        rintro e w5 ⟨p5, k5, rfl, hp5, hbel5, hs5⟩
        have E5 : Below w4.heap.size w4 w5 := E5k.trans (hbel5.mono E5k.size)
        have L6 := L5.later E5
        have D6 := D5.trans (E5.mono D5.size)
        have hz6 := D6.size
        go_wp2_with (at_builtin; refine wpList_append_avps ?_ (.tmp 40) (.tmp 44) ?_ w0.heap.size _ LS ?_ (L6.later ((Below.refl _ _).alloc (Nat.le_refl _) _)) ⟨w5.heap.size, 0, none⟩ 1 1 [⟨mk 5 (allB ([mk 3 (strB s)] ++ [mk 4 (be32 fx)])), p5, k5⟩] ?_ ?_ (news_of_alloc w5 [⟨mk 5 (allB ([mk 3 (strB s)] ++ [mk 4 (be32 fx)])), p5, k5⟩] _ _ rfl rfl) ?_ ?_ ?_ ?_; rfl; rfl; rfl; rfl; rfl; (intro q hq; simp at hq; subst hq; exact ⟨hp5, hs5.later ((Below.refl _ _).alloc (Nat.le_refl _) _)⟩); omega; (simp; omega); intro v7 w7 g7)
        go_roundw
        case rel =>
          refine ⟨k + 1, by omega, by go_num, ?_, ?_⟩
          · rw [HFIN.out]; exact g7.lst
          · exact (D6.alloc D6.size _).trans (g7.below (L6.later ((Below.refl _ _).alloc (Nat.le_refl _) _)) (by simp; omega))
        case measure => simp [intOf]; omega
    · have hk' : k = r.flows.length := by omega
      subst hk'
      rw [List.take_length] at L4
      clear gdx3a gdx3b gdx3c hldx3 gdx4a gdx4b gdx4c hldx4 gdx5a gdx5b gdx5c hldx5
      have hlf : ([mk 1 (strB r.name), mk 2 (be32 r.rg)] ++ r.flows.map (flowA fi)).length ≤ 5000 := by simp; omega
      generalize hLSF : ([mk 1 (strB r.name), mk 2 (be32 r.rg)] ++ r.flows.map (flowA fi)) = LSF at *
      have HLSF : Hid (([mk 1 (strB r.name), mk 2 (be32 r.rg)] ++ r.flows.map (flowA fi)) = LSF) := hLSF
      clear hLSF
      have neq1 := neq_optU HH.out.2.1
      have neq2 := neq_optU HH.out.2.2.1
      have neq3 := neq_optR HH.out.2.2.2.2.2.2.2
      have hz4 := D4.size
      have Bi := B0.trans (D4.mono hz00)
      have GGi := HG.out.later Bi
      have GHi : Hid (Globals wr) := GGi
      obtain ⟨gix6a, gix6b, gix6c⟩ := GGi 6 (by decide) (by decide)
      have hlix6 : 6 < wr.heap.size := block_lt_of_cell gix6a
      clear GGi
      have Xi := cells13 ((D4.block _ hzb).trans HBOX.out)
      obtain ⟨-, -, -, -, -, xix5, -, -, -, -, -, -, -⟩ := Xi
      go_upto_if 49 with fail
      go_cut [5] (fun vc wc => Lst wc w0.heap.size vc (LSF ++ optA 6 r.fs) ∧ Below w0.heap.size w0 wc)
      case first =>
        rcases HH.out.2.1 with ⟨hfs, hpf⟩ | ⟨fb1, fx1, hfs, hpf, c0, c1, c2, c3⟩ <;> (simp only [Value.pointer.injEq] at hpf; subst hpf)
        · have ht : hasV r.fs = false := by rw [hfs]; rfl
          have HFS : Hid (r.fs = none) := hfs
          clear hfs
          rw [ht]
          go_wp2_with fail
          go_meet
          case rel => exact ⟨by rw [HFS.out]; simpa [optA] using L4, D4⟩
        · have ht : hasV r.fs = true := by rw [hfs]; rfl
          have HFS : Hid (r.fs = some fx1) := hfs
          clear hfs
          rw [ht]
          have cfs := (Bi.cell (p := ⟨fb1, 0, none⟩) c1).trans c0
          go_wp2_with fail
          go_region_held3 (fun w' => w'.cell? ⟨6, 0, none⟩ = some (.int .u32 (gc 6)) ∧ w'.cell? ⟨6, 1, none⟩ = some (.int .u32 (gv 6)) ∧ w'.cell? ⟨6, 2, none⟩ = some (.bool (gm 6)) ∧ w'.cell? ⟨w.heap.size, 5, none⟩ = some (.pointer (some ⟨fb1, 0, none⟩)) ∧ w'.cell? ⟨fb1, 0, none⟩ = some (.int .u32 fx1)) (go_keep)
            (first
              | (go_at_call 17; (with_reducible refine (unsigned32_gave 6 fx1 _ c2 c3).mono ?_); rintro e w5 ⟨p5, k5, rfl, hp5, hbel5, hs5⟩; have F5 : Below wr.heap.size wr w5 := (Below.refl _ _).drew.trans hbel5; have D5 := D4.trans (F5.mono D4.size); have L5 := L4.later F5; have Bj := B0.trans (D5.mono hz00); have GGj := HG.out.later Bj; have GHj : Hid (Globals w5) := GGj; obtain ⟨gjx6a, gjx6b, gjx6c⟩ := GGj 6 (by decide) (by decide); have hljx6 : 6 < w5.heap.size := block_lt_of_cell gjx6a; clear GGj; have Xj := cells13 ((D5.block _ hzb).trans HBOX.out); obtain ⟨-, -, -, -, -, xjx5, -, -, -, -, -, -, -⟩ := Xj; have cfs5 := (Bj.cell (p := ⟨fb1, 0, none⟩) c1).trans c0; have hlj : fb1 < w5.heap.size := block_lt_of_cell cfs5; have hlk : w.heap.size < w5.heap.size := block_lt_of_cell xjx5)
              | (refine step_append_avps ?_ (.tmp 50) (.tmp 57) ?_ w0.heap.size _ LSF ?_ (L5.later ((Below.refl _ _).alloc (Nat.le_refl _) _)) ⟨w5.heap.size, 0, none⟩ 1 1 [⟨mk 6 (be32 fx1), p5, k5⟩] ?_ ?_ (news_of_alloc w5 [⟨mk 6 (be32 fx1), p5, k5⟩] _ _ rfl rfl) ?_ ?_ ?_ ?_; rfl; rfl; rfl; rfl; rfl; (intro q hq; simp at hq; subst hq; exact ⟨hp5, hs5.later ((Below.refl _ _).alloc (Nat.le_refl _) _)⟩); (omega); (have h8 := D5.size; simp; omega); intro v6 w6 g6; have D6 := (D5.alloc D5.size _).trans (g6.below (L5.later ((Below.refl _ _).alloc (Nat.le_refl _) _)) (by have h8 := D5.size; simp; omega)); have Bk := B0.trans (D6.mono hz00); have GGk := HG.out.later Bk; have GHk : Hid (Globals w6) := GGk; obtain ⟨gkx6a, gkx6b, gkx6c⟩ := GGk 6 (by decide) (by decide); have hlkx6 : 6 < w6.heap.size := block_lt_of_cell gkx6a; clear GGk; have Xk := cells13 ((D6.block _ hzb).trans HBOX.out); obtain ⟨-, -, -, -, -, xkx5, -, -, -, -, -, -, -⟩ := Xk; have cfs6 := (Bk.cell (p := ⟨fb1, 0, none⟩) c1).trans c0))
          go_wp2_with fail
          go_meet
          case rel => exact ⟨by rw [HFS.out]; simpa [optA] using g6.lst, D6⟩
      case rest =>
        obtain ⟨L7, D7⟩ := hcut
        rename World => wq
        clear gix6a gix6b gix6c hlix6 xix5
        clear L4 D4 hz4
        have Bl := B0.trans (D7.mono hz00)
        have GGl := HG.out.later Bl
        have GHl : Hid (Globals wq) := GGl
        obtain ⟨glx7a, glx7b, glx7c⟩ := GGl 7 (by decide) (by decide)
        have hllx7 : 7 < wq.heap.size := block_lt_of_cell glx7a
        clear GGl
        have Xl := cells13 ((D7.block _ hzb).trans HBOX.out)
        obtain ⟨-, -, -, -, -, -, xlx6, -, -, -, -, -, -⟩ := Xl
        have hzc := D7.size
        go_wp2_with fail
        refine (unsigned32_gave 7 r.qci wq n5 n6).mono ?_
        rintro e w8 ⟨p8, k8, rfl, hp8, hbel8, hs8⟩
        have D8 := D7.trans (hbel8.mono D7.size)
        have Lq := lst_of_alloc w8 wq.heap.size [⟨mk 7 (be32 r.qci), p8, k8⟩] _ #[.int .u32 (mk 7 (be32 r.qci)).c, .int .u8 (mk 7 (be32 r.qci)).f, .int .u32 (mk 7 (be32 r.qci)).v, .slice p8 (mk 7 (be32 r.qci)).d.length k8] 1 rfl rfl rfl hbel8.size (by intro q hq; simp at hq; subst hq; exact ⟨hp8, hs8⟩) (by simp)
        have E8 := hbel8.alloc hbel8.size (.cells #[.int .u32 (mk 7 (be32 r.qci)).c, .int .u8 (mk 7 (be32 r.qci)).f, .int .u32 (mk 7 (be32 r.qci)).v, .slice p8 (mk 7 (be32 r.qci)).d.length k8] 29)
        have D9 := D8.alloc D8.size (.cells #[.int .u32 (mk 7 (be32 r.qci)).c, .int .u8 (mk 7 (be32 r.qci)).f, .int .u32 (mk 7 (be32 r.qci)).v, .slice p8 (mk 7 (be32 r.qci)).d.length k8] 29)
        have Bp := B0.trans (D8.mono hz00)
        have GGp := HG.out.later Bp
        have GHp : Hid (Globals w8) := GGp
        obtain ⟨gpx8a, gpx8b, gpx8c⟩ := GGp 8 (by decide) (by decide)
        have hlpx8 : 8 < w8.heap.size := block_lt_of_cell gpx8a
        obtain ⟨gpx9a, gpx9b, gpx9c⟩ := GGp 9 (by decide) (by decide)
        have hlpx9 : 9 < w8.heap.size := block_lt_of_cell gpx9a
        clear GGp
        have Xp := cells13 ((D8.block _ hzb).trans HBOX.out)
        obtain ⟨-, -, -, -, -, -, -, -, xpx8, xpx9, -, -, -⟩ := Xp
        have hlp : w.heap.size < w8.heap.size := block_lt_of_cell xpx8
        go_wp2_with fail
        generalize w8.alloc (.cells #[.int .u32 (mk 7 (be32 r.qci)).c, .int .u8 (mk 7 (be32 r.qci)).f, .int .u32 (mk 7 (be32 r.qci)).v, .slice p8 (mk 7 (be32 r.qci)).d.length k8] 29) = w9 at *
        have Bm := B0.trans (D9.mono hz00)
        have GGm := HG.out.later Bm
        have GHm : Hid (Globals w9) := GGm
        clear GGm
        refine (appendTo_calls wq.heap.size 8 9 (.pointer amu) (.pointer amd) r.mu r.md _ [mk 7 (be32 r.qci)] w9 Lq E8.size (by simp) ((HH.out.2.2.2.1.later Bm).mono Bl.size) ((HH.out.2.2.2.2.1.later Bm).mono Bl.size)).mono ?_
        rintro e w10 ⟨vq1, rfl, Lq1, Eq1⟩
        have E10 := E8.trans Eq1
        have D10 := D7.trans (E10.mono D7.size)
        clear glx7a glx7b glx7c hllx7 xlx6 gpx8a gpx8b gpx8c hlpx8 gpx9a gpx9b gpx9c hlpx9 xpx8 xpx9
        have Bn := B0.trans (D10.mono hz00)
        have GGn := HG.out.later Bn
        have GHn : Hid (Globals w10) := GGn
        obtain ⟨gnx10a, gnx10b, gnx10c⟩ := GGn 10 (by decide) (by decide)
        have hlnx10 : 10 < w10.heap.size := block_lt_of_cell gnx10a
        obtain ⟨gnx11a, gnx11b, gnx11c⟩ := GGn 11 (by decide) (by decide)
        have hlnx11 : 11 < w10.heap.size := block_lt_of_cell gnx11a
        clear GGn
        have Xn := cells13 ((D10.block _ hzb).trans HBOX.out)
        obtain ⟨-, -, -, -, -, -, -, -, -, -, xnx10, xnx11, -⟩ := Xn
        go_wp2_with fail
        refine (appendTo_calls wq.heap.size 10 11 (.pointer agu) (.pointer agd) r.gu r.gd vq1 _ w10 Lq1 E10.size (by have h1 := optA_len 8 r.mu; have h2 := optA_len 9 r.md; simp; omega) ((HH.out.2.2.2.2.2.1.later Bn).mono Bl.size) ((HH.out.2.2.2.2.2.2.1.later Bn).mono Bl.size)).mono ?_
        rintro e w11 ⟨vq2, rfl, Lq2, Eq2⟩
        have E11 := E10.trans Eq2
        have D11 := D7.trans (E11.mono D7.size)
        have hlq : ([mk 7 (be32 r.qci)] ++ optA 8 r.mu ++ optA 9 r.md ++ optA 10 r.gu ++ optA 11 r.gd).length ≤ 10 := by have h1 := optA_len 8 r.mu; have h2 := optA_len 9 r.md; have h3 := optA_len 10 r.gu; have h4 := optA_len 11 r.gd; simp; omega
        generalize hQL : ([mk 7 (be32 r.qci)] ++ optA 8 r.mu ++ optA 9 r.md ++ optA 10 r.gu ++ optA 11 r.gd) = QL at *
        have HQL : Hid (([mk 7 (be32 r.qci)] ++ optA 8 r.mu ++ optA 9 r.md ++ optA 10 r.gu ++ optA 11 r.gd) = QL) := hQL
        clear hQL
        clear gnx10a gnx10b gnx10c hlnx10 gnx11a gnx11b gnx11c hlnx11 xnx10 xnx11
        have Bo := B0.trans (D11.mono hz00)
        have GGo := HG.out.later Bo
        have GHo : Hid (Globals w11) := GGo
        clear GGo
        have Xo := cells13 ((D11.block _ hzb).trans HBOX.out)
        obtain ⟨-, -, -, -, -, -, -, xox7, -, -, -, -, -⟩ := Xo
        have hz11 := E11.size
        go_upto_if 78 with fail
        go_cut [9] (fun vc wd => Lst wd wq.heap.size vc (QL ++ arpL r.arp) ∧ Below wq.heap.size wq wd)
        case first =>
          rcases HH.out.2.2.1 with ⟨hfs, hpf⟩ | ⟨fb1, fx1, hfs, hpf, c0, c1, c2, c3⟩ <;> (simp only [Value.pointer.injEq] at hpf; subst hpf)
          · have ht : hasV r.arp = false := by rw [hfs]; rfl
            have HFS : Hid (r.arp = none) := hfs
            clear hfs
            rw [ht]
            go_wp2_with fail
            go_meet
            case rel => exact ⟨by rw [HFS.out]; simpa [arpL] using Lq2, E11⟩
          · have ht : hasV r.arp = true := by rw [hfs]; rfl
            have HFS : Hid (r.arp = some fx1) := hfs
            clear hfs
            rw [ht]
            have cfs := (Bo.cell (p := ⟨fb1, 0, none⟩) c1).trans c0
            go_wp2_with fail
            refine (arp_calls fx1 w11 GHo.out c2 c3).mono ?_
            rintro e w12 ⟨p12, k12, rfl, hp12, hbel12, hs12⟩
            have Lq3 := Lq2.later hbel12
            have E12 := E11.trans (hbel12.mono E11.size)
            have hz12 := E12.size
            go_wp2_with (at_builtin; refine wpList_append_avps ?_ (.tmp 79) (.tmp 85) ?_ wq.heap.size _ QL ?_ (Lq3.later ((Below.refl _ _).alloc (Nat.le_refl _) _)) ⟨w12.heap.size, 0, none⟩ 1 1 [⟨arpA fx1, p12, k12⟩] ?_ ?_ (news_of_alloc w12 [⟨arpA fx1, p12, k12⟩] _ _ rfl rfl) ?_ ?_ ?_ ?_; rfl; rfl; rfl; rfl; rfl; (intro q hq; simp at hq; subst hq; exact ⟨hp12, hs12.later ((Below.refl _ _).alloc (Nat.le_refl _) _)⟩); omega; (simp; omega); intro v13 w13 g13)
            go_meet
            case rel => exact ⟨by rw [HFS.out]; simpa [arpL] using g13.lst, (E12.alloc E12.size _).trans (g13.below (Lq3.later ((Below.refl _ _).alloc (Nat.le_refl _) _)) (by simp; omega))⟩
        case rest =>
          obtain ⟨Lq3, E12⟩ := hcut
          rename World => wd
          have D12 := D7.trans (E12.mono D7.size)
          have L12 := L7.later E12
          have hz12 := D12.size
          clear Lq2 E11 D11 hz11
          have hlq2 : (QL ++ arpL r.arp).length ≤ 20 := by have h1 := arpL_len r.arp; simp; omega
          have hlp2 : 0 < (QL ++ arpL r.arp).length := by rw [← HQL.out]; simp
          have hl7 : (LSF ++ optA 6 r.fs).length ≤ 6000 := by have h1 := optA_len 6 r.fs; simp; omega
          have hokq : ∀ a ∈ QL ++ arpL r.arp, AvpOk a := by rw [← HQL.out]; exact qos_ok r
          have hwq : wires (QL ++ arpL r.arp) ≤ 1000 := by rw [← HQL.out]; exact qos_wires r
          obtain ⟨gq3, capq, hvq, atq, hgq, _⟩ := Lq3.at_ hlp2
          subst hvq
          generalize hLS7 : LSF ++ optA 6 r.fs = LS7 at *
          have HLS7 : Hid (LSF ++ optA 6 r.fs = LS7) := hLS7
          clear hLS7
          generalize hQA : QL ++ arpL r.arp = QA at *
          have HQA : Hid (QL ++ arpL r.arp = QA) := hQA
          clear hQA
          clear xox7
          have Br := B0.trans (D12.mono hz00)
          have GGr := HG.out.later Br
          have GHr : Hid (Globals wd) := GGr
          obtain ⟨grx12a, grx12b, grx12c⟩ := GGr 12 (by decide) (by decide)
          have hlrx12 : 12 < wd.heap.size := block_lt_of_cell grx12a
          obtain ⟨grx13a, grx13b, grx13c⟩ := GGr 13 (by decide) (by decide)
          have hlrx13 : 13 < wd.heap.size := block_lt_of_cell grx13a
          clear GGr
          have Xr := cells13 ((D12.block _ hzb).trans HBOX.out)
          obtain ⟨-, xrx1, -, -, -, -, -, -, -, -, -, -, -⟩ := Xr
          go_wp2_with fail
          go_region_held3 (fun w' => w'.cell? ⟨12, 0, none⟩ = some (.int .u32 (gc 12)) ∧ w'.cell? ⟨12, 1, none⟩ = some (.int .u32 (gv 12)) ∧ w'.cell? ⟨12, 2, none⟩ = some (.bool (gm 12)) ∧ w'.cell? ⟨13, 0, none⟩ = some (.int .u32 (gc 13)) ∧ w'.cell? ⟨13, 1, none⟩ = some (.int .u32 (gv 13)) ∧ w'.cell? ⟨13, 2, none⟩ = some (.bool (gm 13)) ∧ w'.cell? ⟨w.heap.size, 1, none⟩ = some (.int .u32 r.prec)) (go_keep)
            (first
              | (go_at_call 11; (with_reducible refine (grouped_gave 12 gq3 capq QA _ (atq.later (Below.refl _ _).drew) hokq ?_ ?_).mono ?_); (omega); (omega); rintro e w13 ⟨p13, k13, rfl, hp13, hbel13, hs13⟩; have F13 : Below wd.heap.size wd w13 := (Below.refl _ _).drew.trans hbel13; have D13 := D12.trans (F13.mono D12.size); have L13 := L12.later F13; have Bs := B0.trans (D13.mono hz00); have GGs := HG.out.later Bs; have GHs : Hid (Globals w13) := GGs; obtain ⟨gsx12a, gsx12b, gsx12c⟩ := GGs 12 (by decide) (by decide); have hlsx12 : 12 < w13.heap.size := block_lt_of_cell gsx12a; obtain ⟨gsx13a, gsx13b, gsx13c⟩ := GGs 13 (by decide) (by decide); have hlsx13 : 13 < w13.heap.size := block_lt_of_cell gsx13a; clear GGs; have Xs := cells13 ((D13.block _ hzb).trans HBOX.out); obtain ⟨-, xsx1, -, -, -, -, -, -, -, -, -, -, -⟩ := Xs)
              | (go_at_call 17; (with_reducible refine (unsigned32_gave 13 r.prec _ n1 n2).mono ?_); rintro e w14 ⟨p14, k14, rfl, hp14, hbel14, hs14⟩; have D14 := D13.trans (hbel14.mono D13.size); have L14 := L13.later hbel14; have Bt := B0.trans (D14.mono hz00); have GGt := HG.out.later Bt; have GHt : Hid (Globals w14) := GGt; obtain ⟨gtx12a, gtx12b, gtx12c⟩ := GGt 12 (by decide) (by decide); have hltx12 : 12 < w14.heap.size := block_lt_of_cell gtx12a; obtain ⟨gtx13a, gtx13b, gtx13c⟩ := GGt 13 (by decide) (by decide); have hltx13 : 13 < w14.heap.size := block_lt_of_cell gtx13a; clear GGt; have Xt := cells13 ((D14.block _ hzb).trans HBOX.out); obtain ⟨-, xtx1, -, -, -, -, -, -, -, -, -, -, -⟩ := Xt; have hlt4 : w.heap.size < w14.heap.size := block_lt_of_cell xtx1)
              | (refine step_append_avps ?_ (.tmp 87) (.tmp 95) ?_ w0.heap.size u5 LS7 ?_ (L14.later ((Below.refl _ _).alloc (Nat.le_refl _) _)) ⟨w14.heap.size, 0, none⟩ 2 2 [⟨mk 12 (allB QA), p13, k13⟩, ⟨mk 13 (be32 r.prec), p14, k14⟩] ?_ ?_ (news_of_alloc w14 [⟨mk 12 (allB QA), p13, k13⟩, ⟨mk 13 (be32 r.prec), p14, k14⟩] _ _ rfl rfl) ?_ ?_ ?_ ?_; rfl; rfl; rfl; rfl; rfl; (intro q hq; simp at hq; rcases hq with rfl | rfl; exact ⟨hp13, (hs13.later hbel14).later ((Below.refl _ _).alloc (Nat.le_refl _) _)⟩; exact ⟨hp14, hs14.later ((Below.refl _ _).alloc (Nat.le_refl _) _)⟩); (omega); (have h8 := D14.size; simp; omega); intro v15 w15 g15; have D15 := (D14.alloc D14.size _).trans (g15.below (L14.later ((Below.refl _ _).alloc (Nat.le_refl _) _)) (by have h8 := D14.size; simp; omega)); have Bu := B0.trans (D15.mono hz00); have GGu := HG.out.later Bu; have GHu : Hid (Globals w15) := GGu; obtain ⟨gux12a, gux12b, gux12c⟩ := GGu 12 (by decide) (by decide); have hlux12 : 12 < w15.heap.size := block_lt_of_cell gux12a; obtain ⟨gux13a, gux13b, gux13c⟩ := GGu 13 (by decide) (by decide); have hlux13 : 13 < w15.heap.size := block_lt_of_cell gux13a; clear GGu; have Xu := cells13 ((D15.block _ hzb).trans HBOX.out); obtain ⟨-, xux1, -, -, -, -, -, -, -, -, -, -, xux12⟩ := Xu))
          have L15 : Lst w15 w0.heap.size v15 (LS7 ++ [mk 12 (allB QA), mk 13 (be32 r.prec)]) := g15.lst
          have hz15 := D15.size
          clear grx12a grx12b grx12c hlrx12 grx13a grx13b grx13c hlrx13 xrx1 gsx12a gsx12b gsx12c hlsx12 gsx13a gsx13b gsx13c hlsx13 xsx1 gtx12a gtx12b gtx12c hltx12 gtx13a gtx13b gtx13c hltx13 xtx1
          have hlL : (LS7 ++ [mk 12 (allB QA), mk 13 (be32 r.prec)]).length ≤ 7000 := by simp; omega
          generalize hLS15 : LS7 ++ [mk 12 (allB QA), mk 13 (be32 r.prec)] = LS15 at *
          have HLS15 : Hid (LS7 ++ [mk 12 (allB QA), mk 13 (be32 r.prec)] = LS15) := hLS15
          clear hLS15
          go_upto_if 99 with fail
          go_cut [5] (fun vc we => Lst we w0.heap.size vc (LS15 ++ redL r.red) ∧ Below w0.heap.size w0 we)
          case first =>
            rcases HH.out.2.2.2.2.2.2.2 with ⟨hfs, hpf⟩ | ⟨rb, ru, rs, hfs, hpf, c0, c1, c2⟩ <;> (simp only [Value.pointer.injEq] at hpf; subst hpf)
            · have ht : hasV r.red = false := by rw [hfs]; rfl
              have HFS : Hid (r.red = none) := hfs
              clear hfs
              rw [ht]
              go_wp2_with fail
              go_meet
              case rel => exact ⟨by rw [HFS.out]; simpa [redL] using L15, D15⟩
            · have ht : hasV r.red = true := by rw [hfs]; rfl
              have HFS : Hid (r.red = some (ru, rs)) := hfs
              have hru := hRed ru rs hfs
              clear hfs
              rw [ht]
              go_wp2_with fail
              refine (red_calls rb ru rs w15 GHu.out ((Bu.cell (p := ⟨rb, 1, none⟩) c2).trans c0) ((Bu.cell (p := ⟨rb, 2, none⟩) c2).trans c1) (by omega)).mono ?_
              rintro e w16 ⟨p16, k16, rfl, hp16, hbel16, hs16⟩
              have L16 := L15.later hbel16
              have D16 := D15.trans (hbel16.mono D15.size)
              have hz16 := D16.size
              go_wp2_with (at_builtin; refine wpList_append_avps ?_ (.tmp 100) (.tmp 104) ?_ w0.heap.size v15 LS15 ?_ (L16.later ((Below.refl _ _).alloc (Nat.le_refl _) _)) ⟨w16.heap.size, 0, none⟩ 1 1 [⟨redA ru rs, p16, k16⟩] ?_ ?_ (news_of_alloc w16 [⟨redA ru rs, p16, k16⟩] _ _ rfl rfl) ?_ ?_ ?_ ?_; rfl; rfl; rfl; rfl; rfl; (intro q hq; simp at hq; subst hq; exact ⟨hp16, hs16.later ((Below.refl _ _).alloc (Nat.le_refl _) _)⟩); omega; (simp; omega); intro v17 w17 g17)
              go_meet
              case rel => exact ⟨by rw [HFS.out]; simpa [redL] using g17.lst, (D16.alloc D16.size _).trans (g17.below (L16.later ((Below.refl _ _).alloc (Nat.le_refl _) _)) (by simp; omega))⟩
          case rest =>
            obtain ⟨L18, D18⟩ := hcut
            rename World => we
            clear gux12a gux12b gux12c hlux12 gux13a gux13b gux13c hlux13 xux1 xux12
            have Bv := B0.trans (D18.mono hz00)
            have GGv := HG.out.later Bv
            have GHv : Hid (Globals we) := GGv
            obtain ⟨gvx14a, gvx14b, gvx14c⟩ := GGv 14 (by decide) (by decide)
            have hlvx14 : 14 < we.heap.size := block_lt_of_cell gvx14a
            clear GGv
            have hRL : LS15 ++ redL r.red = ruleL r fi := by rw [← HLS15.out, ← HLS7.out, ← HLSF.out, ← HQA.out, ← HQL.out]; rfl
            rw [hRL] at L18
            have HRO : Hid (∀ a ∈ ruleL r fi, AvpOk a) := hOk
            obtain ⟨g18, cap18, hv18, at18, hg18, _⟩ := L18.at_ (by simp [ruleL])
            subst hv18
            clear hRL
            go_wp2_with fail
            refine (grouped_gave 14 g18 cap18 (ruleL r fi) we at18 hOk hLn hWr).mono ?_
            rintro e w19 ⟨p19, k19, rfl, hp19, hbel19, hs19⟩
            have D19 := D18.trans (hbel19.mono D18.size)
            have B19 := B0.trans (D19.mono hz00)
            have r19 := res4 D19 HRES.out
            obtain ⟨⟨z0, z1, z2, z3⟩, y0, y1, y2, y3⟩ := r19
            go_wp2_with fail
            refine bodyPost_ret (v := .agg #[.int .u32 (mk 14 (allB (ruleL r fi))).c, .int .u8 (mk 14 (allB (ruleL r fi))).f, .int .u32 (mk 14 (allB (ruleL r fi))).v, .slice p19 (mk 14 (allB (ruleL r fi))).d.length k19]) (by simp [results, Ybad.results9, go_sem, z0, z1, z2, z3]) rfl ?_
            exact gave_end (x := ruleA r fi) B19 (by omega) ((D19.block _ hzr).trans HRES.out) hp19 hs19 _ _ _ _

end Go.Proofs.YbulkaroiDoor
