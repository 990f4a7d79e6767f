import Derived.Test.YbulkaroiDoorFacts
set_option linter.unusedVariables false
namespace Go.Proofs.YbulkaroiDoor
open Go.RowKit Go.Deep


theorem box_step {wA : World} {br : Nat} (j : Nat) {cs : Array Value} {t : TypeId} (t2 : TypeId) (bs : Array Value) (h : wA.heap[br]? = some (.cells cs t (0, 0))) :
    (((wA.setCell ⟨br, j, none⟩ (.pointer (some ⟨wA.heap.size, 0, none⟩))).alloc (.cells bs t2)).heap[br]? = some (.cells (cs.setIfInBounds j (.pointer (some ⟨wA.heap.size, 0, none⟩))) t (0, 0))) ∧
    wA.grownBy ((wA.setCell ⟨br, j, none⟩ (.pointer (some ⟨wA.heap.size, 0, none⟩))).alloc (.cells bs t2)) (some br) ∧
    ((wA.setCell ⟨br, j, none⟩ (.pointer (some ⟨wA.heap.size, 0, none⟩))).alloc (.cells bs t2)).heap[wA.heap.size]? = some (.cells bs t2 (0, 0)) := by
  have hlt := heap_lt h
  have g2 := grown_set wA br j (.pointer (some ⟨wA.heap.size, 0, none⟩))
  have hz : (wA.setCell ⟨br, j, none⟩ (.pointer (some ⟨wA.heap.size, 0, none⟩))).heap.size = wA.heap.size := by simp
  have h1 := heap_setCell_same wA br j cs t (.pointer (some ⟨wA.heap.size, 0, none⟩)) h
  have g1 : (wA.setCell ⟨br, j, none⟩ (.pointer (some ⟨wA.heap.size, 0, none⟩))).grownBy ((wA.setCell ⟨br, j, none⟩ (.pointer (some ⟨wA.heap.size, 0, none⟩))).alloc (.cells bs t2)) (some br) := World.grownBy_alloc _ _ _
  have g3 : (wA.setCell ⟨br, j, none⟩ (.pointer (some ⟨wA.heap.size, 0, none⟩))).grownBy ((wA.setCell ⟨br, j, none⟩ (.pointer (some ⟨wA.heap.size, 0, none⟩))).alloc (.cells bs t2)) none := World.grownBy_alloc _ _ _
  have hn := heap_alloc_new (wA.setCell ⟨br, j, none⟩ (.pointer (some ⟨wA.heap.size, 0, none⟩))) (.cells bs t2)
  rw [hz] at hn
  exact ⟨(g3.block _ (by rw [hz]; exact hlt) (by simp)).trans h1, grown_trans g2 g1, hn⟩

theorem box_next {wA : World} {br : Nat} (j : Nat) {cs : Array Value} {t : TypeId} (t2 : TypeId) (bs : Array Value) (h : wA.heap[br]? = some (.cells cs t (0, 0))) :
    (((wA.alloc (.cells bs t2)).setCell ⟨br, j, none⟩ (.pointer (some ⟨wA.heap.size, 0, none⟩))).heap[br]? = some (.cells (cs.setIfInBounds j (.pointer (some ⟨wA.heap.size, 0, none⟩))) t (0, 0))) ∧
    wA.grownBy ((wA.alloc (.cells bs t2)).setCell ⟨br, j, none⟩ (.pointer (some ⟨wA.heap.size, 0, none⟩))) (some br) ∧
    ((wA.alloc (.cells bs t2)).setCell ⟨br, j, none⟩ (.pointer (some ⟨wA.heap.size, 0, none⟩))).heap[wA.heap.size]? = some (.cells bs t2 (0, 0)) := by
  have hlt := heap_lt h
  have h1 := ((World.grownBy_alloc wA (.cells bs t2) none).block br hlt (by simp)).trans h
  have g1 : wA.grownBy (wA.alloc (.cells bs t2)) (some br) := World.grownBy_alloc _ _ _
  have g2 := grown_set (wA.alloc (.cells bs t2)) br j (.pointer (some ⟨wA.heap.size, 0, none⟩))
  have hn := heap_alloc_new wA (.cells bs t2)
  exact ⟨heap_setCell_same _ br j cs t _ h1, grown_trans g1 g2, (g2.block _ (by simp) (by simp; omega)).trans hn⟩

theorem OptU.boxed {w : World} {b B : Nat} {x : Int} {hb : Bool} (h : w.heap[b]? = some (.cells #[.int .u32 x] 22 (0, 0))) (hB : b < B) (hx : 0 ≤ x ∧ x < 4294967296) (ht : hb = true) : OptU w B (.pointer (some ⟨b, 0, none⟩)) (optB hb x) :=
  .inr ⟨b, x, by simp [optB, ht], rfl, by simp [World.cell?, h], hB, hx⟩

theorem OptU.unboxed {w : World} {B : Nat} {x : Int} {hb : Bool} (ht : hb = false) : OptU w B (.pointer none) (optB hb x) := .inl ⟨by simp [optB, ht], rfl⟩

theorem OptR.boxed {w : World} {b B : Nat} {u : ByteArray} {s hb : Bool} {v0 : Value} (h : w.heap[b]? = some (.cells #[v0, .string u, .bool s] 75 (0, 0))) (hB : b < B) (ht : hb = true) : OptR w B (.pointer (some ⟨b, 0, none⟩)) (optS hb u s) :=
  .inr ⟨b, u, s, by simp [optS, ht], rfl, by simp [World.cell?, h], by simp [World.cell?, h], hB⟩

theorem OptR.unboxed {w : World} {B : Nat} {u : ByteArray} {s hb : Bool} (ht : hb = false) : OptR w B (.pointer none) (optS hb u s) := .inl ⟨by simp [optS, ht], rfl⟩

set_option maxRecDepth 100000 in
set_option maxHeartbeats 4000000 in
theorem build_calls (sp : Option Addr) (cap : Nat) (ss : List Src) (w : World) (hat : SrcsAt w sp ss) (hsi : ∀ s ∈ ss, SrcInts s) (hfl : ∀ s ∈ ss, s.flows.length ≤ 4000) (hn : ss.length ≤ 256) :
    Calls Ybad.prog 6 #[.slice sp ss.length cap] w fun e w' => ∃ g, e = .returned (.slice (some ⟨g, 0, none⟩) ss.length ss.length) ∧ Below w.heap.size w w' ∧ g < w'.heap.size ∧ RulesAt w' w'.heap.size g (ss.map toRule) := by
  have HAT : Hid (SrcsAt w sp ss) := hat
  have HSI : Hid (∀ s ∈ ss, SrcInts s) := hsi
  have HFL : Hid (∀ s ∈ ss, s.flows.length ≤ 4000) := hfl
  clear hat hsi hfl
  have hmk := make_rules ss.length (by omega)
  go_enter Ybad.func6, Ybad.ntmps6
  go_wp2_with fail
  clear hmk
  have F0 := FillR.made w ss.length (madeCells #[.string ⟨#[]⟩, .int .u32 0, .int .u32 0, .slice none 0 0, .bool false, .pointer none, .int .u32 0, .pointer none, .pointer none, .pointer none, .pointer none, .pointer none, .pointer none] (ss.length * 13)) (by simp [size_madeCells])
  have B0 : Below w.heap.size w (w.alloc (.cells (madeCells #[.string ⟨#[]⟩, .int .u32 0, .int .u32 0, .slice none 0 0, .bool false, .pointer none, .int .u32 0, .pointer none, .pointer none, .pointer none, .pointer none, .pointer none, .pointer none] (ss.length * 13)) 59)) := (Below.refl _ _).alloc (Nat.le_refl _) _
  have hz0 : (w.alloc (.cells (madeCells #[.string ⟨#[]⟩, .int .u32 0, .int .u32 0, .slice none 0 0, .bool false, .pointer none, .int .u32 0, .pointer none, .pointer none, .pointer none, .pointer none, .pointer none, .pointer none] (ss.length * 13)) 59)).heap.size = w.heap.size + 1 := by simp
  generalize (w.alloc (.cells (madeCells #[.string ⟨#[]⟩, .int .u32 0, .int .u32 0, .slice none 0 0, .bool false, .pointer none, .int .u32 0, .pointer none, .pointer none, .pointer none, .pointer none, .pointer none, .pointer none] (ss.length * 13)) 59)) = w0 at *
  have hgw0 : w.heap.size < w0.heap.size := by omega
  have HZ0 : Hid (w0.heap.size = w.heap.size + 1) := hz0
  clear hz0
  go_loopw [4] (fun i wr => ∃ k : Nat, k ≤ ss.length ∧ i = .int .i64 k ∧ FillR wr w.heap.size ss.length ((ss.take k).map toRule) ∧ w0.grownBy wr (some w.heap.size)) (fun i _ => ss.length - (intOf i).toNat)
  case atStart => exact ⟨0, Nat.zero_le _, rfl, by simpa using F0, ⟨rfl, rfl, rfl, Nat.le_refl _, fun _ _ _ => rfl⟩⟩
  case round =>
    obtain ⟨k, hk, rfl, F1, Gr⟩ := hrel
    have B1 : Below w.heap.size w wr := B0.grown Gr (by omega) (fun k e => by cases e; omega)
    have hzr : w0.heap.size ≤ wr.heap.size := Gr.size
    by_cases hlt : k < ss.length
    · have hget : ss[k]? = some ss[k] := List.getElem?_eq_getElem hlt
      have hsi := HSI.out ss[k] (List.getElem_mem hlt)
      have hfl := HFL.out ss[k] (List.getElem_mem hlt)
      have hra := HAT.out k _ hget
      have hsn := take_snoc ss k ss[k] hget
      generalize ss[k] = s at *
      have HSN : Hid (ss.take (k + 1) = ss.take k ++ [s]) := hsn
      have HSIk : Hid (SrcInts s) := hsi
      clear hsn hget hsi
      obtain ⟨b, o, hsp, hra⟩ := hra
      subst hsp
      obtain ⟨fp, fk, ⟨d0, d1, d2, d3, d4, d5, d6, d7, d8, d9, d10, d11, d12, d13, d14, d15, d16⟩, hfk, hstr⟩ := hra
      have HST : Hid (StrsAt wr wr.heap.size fp s.flows) := hstr.later B1 B1.size
      clear hstr
      have c0 := cell_later B1 d0
      have c1 := cell_later B1 d1
      have c2 := cell_later B1 d2
      have c3 := cell_later B1 d3
      have c4 := cell_later B1 d4
      have c5 := cell_later B1 d5
      have c6 := cell_later B1 d6
      have c7 := cell_later B1 d7
      have c8 := cell_later B1 d8
      have c9 := cell_later B1 d9
      have c10 := cell_later B1 d10
      have c11 := cell_later B1 d11
      have c12 := cell_later B1 d12
      have c13 := cell_later B1 d13
      have c14 := cell_later B1 d14
      have c15 := cell_later B1 d15
      have c16 := cell_later B1 d16
      clear d0 d1 d2 d3 d4 d5 d6 d7 d8 d9 d10 d11 d12 d13 d14 d15 d16
      go_upto_if 27 with fail
      have E2 : Below wr.heap.size wr (wr.alloc (.cells #[.string s.name, .int .u32 s.prec, .int .u32 s.rg, .slice fp s.flows.length fk, .bool s.media, .bool s.hfs, .int .u32 s.fs, .int .u32 s.qci, .bool s.harp, .int .u32 s.arp, .bool s.hmu, .int .u32 s.mu, .bool s.hgd, .int .u32 s.gd, .bool s.hred, .string s.uri, .bool s.su] 72)) := (Below.refl _ _).alloc (Nat.le_refl _) _
      have HXB : Hid ((wr.alloc (.cells #[.string s.name, .int .u32 s.prec, .int .u32 s.rg, .slice fp s.flows.length fk, .bool s.media, .bool s.hfs, .int .u32 s.fs, .int .u32 s.qci, .bool s.harp, .int .u32 s.arp, .bool s.hmu, .int .u32 s.mu, .bool s.hgd, .int .u32 s.gd, .bool s.hred, .string s.uri, .bool s.su] 72)).heap[wr.heap.size]? = some (.cells #[.string s.name, .int .u32 s.prec, .int .u32 s.rg, .slice fp s.flows.length fk, .bool s.media, .bool s.hfs, .int .u32 s.fs, .int .u32 s.qci, .bool s.harp, .int .u32 s.arp, .bool s.hmu, .int .u32 s.mu, .bool s.hgd, .int .u32 s.gd, .bool s.hred, .string s.uri, .bool s.su] 72)) := heap_alloc_new _ _
      clear c0 c1 c2 c3 c4 c5 c6 c7 c8 c9 c10 c11 c12 c13 c14 c15 c16
      generalize hwx : wr.alloc (.cells #[.string s.name, .int .u32 s.prec, .int .u32 s.rg, .slice fp s.flows.length fk, .bool s.media, .bool s.hfs, .int .u32 s.fs, .int .u32 s.qci, .bool s.harp, .int .u32 s.arp, .bool s.hmu, .int .u32 s.mu, .bool s.hgd, .int .u32 s.gd, .bool s.hred, .string s.uri, .bool s.su] 72) = wx at *
      have hzx : wr.heap.size < wx.heap.size := by rw [← hwx]; simp
      have HWX : Hid (wx.heap.size = wr.heap.size + 1) := by rw [← hwx]; simp [Hid]
      clear hwx
      have hgr : w.heap.size < wr.heap.size := by omega
      have HST2 : Hid (StrsAt wx wx.heap.size fp s.flows) := HST.out.later E2 E2.size
      have F2 := F1.later E2
      have xa3 : wx.cell? ⟨wr.heap.size, 3, none⟩ = some (.slice fp s.flows.length fk) := by simp [World.cell?, HXB.out]
      go_cut [6] (fun v6 wc => ∃ fq fl, v6 = .slice fq s.flows.length fl ∧ StrsAt wc wc.heap.size fq s.flows ∧ NeP w.heap.size fq ∧ Below wx.heap.size wx wc)
      case first => 
        cases fp with
        | none =>
          have h0 := HST2.out.1 rfl
          go_wp2_with fail
          go_meet
          case rel => exact ⟨none, 0, by simp [h0], HST2.out, NeP.nil _, Below.refl _ _⟩
        | some ad =>
          have hmk := make_strs s.flows.length (by omega) wx
          obtain ⟨wy, hcp, hby, hzy, hsy⟩ := copy_strs (some ad) fk s.flows wx HST2.out
          go_wp2_with fail
          go_meet
          case rel => exact ⟨_, _, rfl, hsy, NeP.at_ (by omega) _, hby⟩
      case rest =>
        obtain ⟨fq, fl, h6, S3, N3, E3⟩ := hcut
        subst h6
        rename World => w3
        have hz3 := E3.size
        have F3 := F2.later E3
        have hbx3 : wr.heap.size < w3.heap.size := by omega
        clear xa3
        have HXB3 : Hid (w3.heap[wr.heap.size]? = some (.cells #[.string s.name, .int .u32 s.prec, .int .u32 s.rg, .slice fp s.flows.length fk, .bool s.media, .bool s.hfs, .int .u32 s.fs, .int .u32 s.qci, .bool s.harp, .int .u32 s.arp, .bool s.hmu, .int .u32 s.mu, .bool s.hgd, .int .u32 s.gd, .bool s.hred, .string s.uri, .bool s.su] 72)) := (E3.block _ hzx).trans HXB.out
        have E4 : Below w3.heap.size w3 (w3.alloc (.cells #[.string s.name, .int .u32 s.prec, .int .u32 s.rg, .slice fq s.flows.length fl, .bool s.media, .pointer none, .int .u32 s.qci, .pointer none, .pointer none, .pointer none, .pointer none, .pointer none, .pointer none] 59)) := (Below.refl _ _).alloc (Nat.le_refl _) _
        have HR4 : Hid ((w3.alloc (.cells #[.string s.name, .int .u32 s.prec, .int .u32 s.rg, .slice fq s.flows.length fl, .bool s.media, .pointer none, .int .u32 s.qci, .pointer none, .pointer none, .pointer none, .pointer none, .pointer none, .pointer none] 59)).heap[w3.heap.size]? = some (.cells #[.string s.name, .int .u32 s.prec, .int .u32 s.rg, .slice fq s.flows.length fl, .bool s.media, .pointer none, .int .u32 s.qci, .pointer none, .pointer none, .pointer none, .pointer none, .pointer none, .pointer none] 59)) := heap_alloc_new _ _
        have HS3 : Hid (StrsAt w3 w3.heap.size fq s.flows) := S3
        have HN3 : Hid (NeP w.heap.size fq) := N3
        have HF3 : Hid (FillR w3 w.heap.size ss.length ((ss.take k).map toRule)) := F3
        clear S3 N3 F3 F2 F1 HST HST2
        have xb0 : w3.cell? ⟨wr.heap.size, 0, none⟩ = some (.string s.name) := by simp [World.cell?, HXB3.out]
        have xb1 : w3.cell? ⟨wr.heap.size, 1, none⟩ = some (.int .u32 s.prec) := by simp [World.cell?, HXB3.out]
        have xb2 : w3.cell? ⟨wr.heap.size, 2, none⟩ = some (.int .u32 s.rg) := by simp [World.cell?, HXB3.out]
        have xb4 : w3.cell? ⟨wr.heap.size, 4, none⟩ = some (.bool s.media) := by simp [World.cell?, HXB3.out]
        have xb7 : w3.cell? ⟨wr.heap.size, 7, none⟩ = some (.int .u32 s.qci) := by simp [World.cell?, HXB3.out]
        have xb5 : w3.cell? ⟨wr.heap.size, 5, none⟩ = some (.bool s.hfs) := by simp [World.cell?, HXB3.out]
        go_upto_if 49 with fail
        clear xb0 xb1 xb2 xb4 xb7 xb5
        generalize hw4 : w3.alloc (.cells #[.string s.name, .int .u32 s.prec, .int .u32 s.rg, .slice fq s.flows.length fl, .bool s.media, .pointer none, .int .u32 s.qci, .pointer none, .pointer none, .pointer none, .pointer none, .pointer none, .pointer none] 59) = w4 at *
        have hz4 : w3.heap.size < w4.heap.size := by rw [← hw4]; simp
        clear hw4
        have hbx4 : wr.heap.size < w4.heap.size := by omega
        have HXB4 : Hid (w4.heap[wr.heap.size]? = some (.cells #[.string s.name, .int .u32 s.prec, .int .u32 s.rg, .slice fp s.flows.length fk, .bool s.media, .bool s.hfs, .int .u32 s.fs, .int .u32 s.qci, .bool s.harp, .int .u32 s.arp, .bool s.hmu, .int .u32 s.mu, .bool s.hgd, .int .u32 s.gd, .bool s.hred, .string s.uri, .bool s.su] 72)) := (E4.block _ hbx3).trans HXB3.out
        clear HXB3
        have x55 : w4.cell? ⟨wr.heap.size, 5, none⟩ = some (.bool s.hfs) := by simp [World.cell?, HXB4.out]
        have x56 : w4.cell? ⟨wr.heap.size, 6, none⟩ = some (.int .u32 s.fs) := by simp [World.cell?, HXB4.out]
        go_cut [8] (fun _ wc => ∃ a5, wc.heap[w3.heap.size]? = some (.cells #[.string s.name, .int .u32 s.prec, .int .u32 s.rg, .slice fq s.flows.length fl, .bool s.media, .pointer a5, .int .u32 s.qci, .pointer none, .pointer none, .pointer none, .pointer none, .pointer none, .pointer none] 59) ∧ OptU wc wc.heap.size (.pointer a5) (optB s.hfs s.fs) ∧ NeP w.heap.size a5 ∧ NeP w3.heap.size a5 ∧ w4.grownBy wc (some w3.heap.size))
        case first =>
          cases ht : s.hfs
          · go_wp2_with fail
            go_meet
            case rel => exact ⟨none, HR4.out, OptU.unboxed ht, NeP.nil _, NeP.nil _, World.grownBy.refl _ _⟩
          · have rc : w4.cell? ⟨w3.heap.size, 5, none⟩ = some (.pointer none) := by simp [World.cell?, HR4.out]
            have rf : w4.frozen? ⟨w3.heap.size, 5, none⟩ = false := by simp [World.frozen?, HR4.out]
            go_wp2_with fail
            go_meet
            case rel => exact ⟨some ⟨w4.heap.size, 0, none⟩, by simpa using (box_step 5 22 #[.int .u32 s.fs] HR4.out).1, OptU.boxed (box_step 5 22 #[.int .u32 s.fs] HR4.out).2.2 (by simp) HSIk.out.1 ht, NeP.at_ (by omega) _, NeP.at_ (by omega) _, (box_step 5 22 #[.int .u32 s.fs] HR4.out).2.1⟩
        case rest =>
          obtain ⟨a5, hr5, ho5, hn5, hm5, hg5⟩ := hcut
          rename World => w5
          clear x55 x56
          have HR5 : Hid (w5.heap[w3.heap.size]? = some (.cells #[.string s.name, .int .u32 s.prec, .int .u32 s.rg, .slice fq s.flows.length fl, .bool s.media, .pointer a5, .int .u32 s.qci, .pointer none, .pointer none, .pointer none, .pointer none, .pointer none, .pointer none] 59)) := hr5
          have HO5 : Hid (OptU w5 w5.heap.size (.pointer a5) (optB s.hfs s.fs)) := ho5
          have HN5 : Hid (NeP w.heap.size a5 ∧ NeP w3.heap.size a5) := ⟨hn5, hm5⟩
          have hz5 := hg5.size
          have hb5 : w3.heap.size < w5.heap.size := by omega
          have hbx5 : wr.heap.size < w5.heap.size := by omega
          have HXB5 : Hid (w5.heap[wr.heap.size]? = some (.cells #[.string s.name, .int .u32 s.prec, .int .u32 s.rg, .slice fp s.flows.length fk, .bool s.media, .bool s.hfs, .int .u32 s.fs, .int .u32 s.qci, .bool s.harp, .int .u32 s.arp, .bool s.hmu, .int .u32 s.mu, .bool s.hgd, .int .u32 s.gd, .bool s.hred, .string s.uri, .bool s.su] 72)) := (hg5.block _ (by omega) (by simp; omega)).trans HXB4.out
          have HG5 : Hid (w4.grownBy w5 (some w3.heap.size)) := hg5
          clear hr5 ho5 hn5 hm5 hg5 HXB4
          have x68 : w5.cell? ⟨wr.heap.size, 8, none⟩ = some (.bool s.harp) := by simp [World.cell?, HXB5.out]
          have x69 : w5.cell? ⟨wr.heap.size, 9, none⟩ = some (.int .u32 s.arp) := by simp [World.cell?, HXB5.out]
          go_upto_if 54 with fail
          go_cut [9] (fun _ wc => ∃ a7, wc.heap[w3.heap.size]? = some (.cells #[.string s.name, .int .u32 s.prec, .int .u32 s.rg, .slice fq s.flows.length fl, .bool s.media, .pointer a5, .int .u32 s.qci, .pointer a7, .pointer none, .pointer none, .pointer none, .pointer none, .pointer none] 59) ∧ OptU wc wc.heap.size (.pointer a7) (optB s.harp s.arp) ∧ NeP w.heap.size a7 ∧ NeP w3.heap.size a7 ∧ w5.grownBy wc (some w3.heap.size))
          case first =>
            cases ht : s.harp
            · go_wp2_with fail
              go_meet
              case rel => exact ⟨none, HR5.out, OptU.unboxed ht, NeP.nil _, NeP.nil _, World.grownBy.refl _ _⟩
            · have rc : w5.cell? ⟨w3.heap.size, 7, none⟩ = some (.pointer none) := by simp [World.cell?, HR5.out]
              have rf : w5.frozen? ⟨w3.heap.size, 7, none⟩ = false := by simp [World.frozen?, HR5.out]
              go_wp2_with fail
              go_meet
              case rel => exact ⟨some ⟨w5.heap.size, 0, none⟩, by simpa using (box_step 7 22 #[.int .u32 s.arp] HR5.out).1, OptU.boxed (box_step 7 22 #[.int .u32 s.arp] HR5.out).2.2 (by simp) HSIk.out.2.1 ht, NeP.at_ (by omega) _, NeP.at_ (by omega) _, (box_step 7 22 #[.int .u32 s.arp] HR5.out).2.1⟩
          case rest =>
            obtain ⟨a7, hr6, ho6, hn6, hm6, hg6⟩ := hcut
            rename World => w6
            clear x68 x69
            have HR6 : Hid (w6.heap[w3.heap.size]? = some (.cells #[.string s.name, .int .u32 s.prec, .int .u32 s.rg, .slice fq s.flows.length fl, .bool s.media, .pointer a5, .int .u32 s.qci, .pointer a7, .pointer none, .pointer none, .pointer none, .pointer none, .pointer none] 59)) := hr6
            have HO6 : Hid (OptU w6 w6.heap.size (.pointer a7) (optB s.harp s.arp)) := ho6
            have HN6 : Hid (NeP w.heap.size a7 ∧ NeP w3.heap.size a7) := ⟨hn6, hm6⟩
            have hz6 := hg6.size
            have hb6 : w3.heap.size < w6.heap.size := by omega
            have hbx6 : wr.heap.size < w6.heap.size := by omega
            have HXB6 : Hid (w6.heap[wr.heap.size]? = some (.cells #[.string s.name, .int .u32 s.prec, .int .u32 s.rg, .slice fp s.flows.length fk, .bool s.media, .bool s.hfs, .int .u32 s.fs, .int .u32 s.qci, .bool s.harp, .int .u32 s.arp, .bool s.hmu, .int .u32 s.mu, .bool s.hgd, .int .u32 s.gd, .bool s.hred, .string s.uri, .bool s.su] 72)) := (hg6.block _ (by omega) (by simp; omega)).trans HXB5.out
            have HG6 : Hid (w5.grownBy w6 (some w3.heap.size)) := hg6
            clear hr6 ho6 hn6 hm6 hg6 HXB5
            have x710 : w6.cell? ⟨wr.heap.size, 10, none⟩ = some (.bool s.hmu) := by simp [World.cell?, HXB6.out]
            have x711 : w6.cell? ⟨wr.heap.size, 11, none⟩ = some (.int .u32 s.mu) := by simp [World.cell?, HXB6.out]
            go_upto_if 59 with fail
            go_cut [10] (fun _ wc => ∃ a8, wc.heap[w3.heap.size]? = some (.cells #[.string s.name, .int .u32 s.prec, .int .u32 s.rg, .slice fq s.flows.length fl, .bool s.media, .pointer a5, .int .u32 s.qci, .pointer a7, .pointer a8, .pointer none, .pointer none, .pointer none, .pointer none] 59) ∧ OptU wc wc.heap.size (.pointer a8) (optB s.hmu s.mu) ∧ NeP w.heap.size a8 ∧ NeP w3.heap.size a8 ∧ w6.grownBy wc (some w3.heap.size))
            case first =>
              cases ht : s.hmu
              · go_wp2_with fail
                go_meet
                case rel => exact ⟨none, HR6.out, OptU.unboxed ht, NeP.nil _, NeP.nil _, World.grownBy.refl _ _⟩
              · have rc : w6.cell? ⟨w3.heap.size, 8, none⟩ = some (.pointer none) := by simp [World.cell?, HR6.out]
                have rf : w6.frozen? ⟨w3.heap.size, 8, none⟩ = false := by simp [World.frozen?, HR6.out]
                go_wp2_with fail
                go_meet
                case rel => exact ⟨some ⟨w6.heap.size, 0, none⟩, by simpa using (box_step 8 22 #[.int .u32 s.mu] HR6.out).1, OptU.boxed (box_step 8 22 #[.int .u32 s.mu] HR6.out).2.2 (by simp) HSIk.out.2.2.1 ht, NeP.at_ (by omega) _, NeP.at_ (by omega) _, (box_step 8 22 #[.int .u32 s.mu] HR6.out).2.1⟩
            case rest =>
              obtain ⟨a8, hr7, ho7, hn7, hm7, hg7⟩ := hcut
              rename World => w7
              clear x710 x711
              have HR7 : Hid (w7.heap[w3.heap.size]? = some (.cells #[.string s.name, .int .u32 s.prec, .int .u32 s.rg, .slice fq s.flows.length fl, .bool s.media, .pointer a5, .int .u32 s.qci, .pointer a7, .pointer a8, .pointer none, .pointer none, .pointer none, .pointer none] 59)) := hr7
              have HO7 : Hid (OptU w7 w7.heap.size (.pointer a8) (optB s.hmu s.mu)) := ho7
              have HN7 : Hid (NeP w.heap.size a8 ∧ NeP w3.heap.size a8) := ⟨hn7, hm7⟩
              have hz7 := hg7.size
              have hb7 : w3.heap.size < w7.heap.size := by omega
              have hbx7 : wr.heap.size < w7.heap.size := by omega
              have HXB7 : Hid (w7.heap[wr.heap.size]? = some (.cells #[.string s.name, .int .u32 s.prec, .int .u32 s.rg, .slice fp s.flows.length fk, .bool s.media, .bool s.hfs, .int .u32 s.fs, .int .u32 s.qci, .bool s.harp, .int .u32 s.arp, .bool s.hmu, .int .u32 s.mu, .bool s.hgd, .int .u32 s.gd, .bool s.hred, .string s.uri, .bool s.su] 72)) := (hg7.block _ (by omega) (by simp; omega)).trans HXB6.out
              have HG7 : Hid (w6.grownBy w7 (some w3.heap.size)) := hg7
              clear hr7 ho7 hn7 hm7 hg7 HXB6
              have x812 : w7.cell? ⟨wr.heap.size, 12, none⟩ = some (.bool s.hgd) := by simp [World.cell?, HXB7.out]
              have x813 : w7.cell? ⟨wr.heap.size, 13, none⟩ = some (.int .u32 s.gd) := by simp [World.cell?, HXB7.out]
              go_upto_if 65 with fail
              go_cut [11] (fun _ wc => ∃ a11, wc.heap[w3.heap.size]? = some (.cells #[.string s.name, .int .u32 s.prec, .int .u32 s.rg, .slice fq s.flows.length fl, .bool s.media, .pointer a5, .int .u32 s.qci, .pointer a7, .pointer a8, .pointer none, .pointer none, .pointer a11, .pointer none] 59) ∧ OptU wc wc.heap.size (.pointer a11) (optB s.hgd s.gd) ∧ NeP w.heap.size a11 ∧ NeP w3.heap.size a11 ∧ w7.grownBy wc (some w3.heap.size))
              case first =>
                cases ht : s.hgd
                · go_wp2_with fail
                  go_meet
                  case rel => exact ⟨none, HR7.out, OptU.unboxed ht, NeP.nil _, NeP.nil _, World.grownBy.refl _ _⟩
                · have rc : w7.cell? ⟨w3.heap.size, 11, none⟩ = some (.pointer none) := by simp [World.cell?, HR7.out]
                  have rf : w7.frozen? ⟨w3.heap.size, 11, none⟩ = false := by simp [World.frozen?, HR7.out]
                  go_wp2_with fail
                  go_meet
                  case rel => exact ⟨some ⟨w7.heap.size, 0, none⟩, by simpa using (box_step 11 22 #[.int .u32 s.gd] HR7.out).1, OptU.boxed (box_step 11 22 #[.int .u32 s.gd] HR7.out).2.2 (by simp) HSIk.out.2.2.2 ht, NeP.at_ (by omega) _, NeP.at_ (by omega) _, (box_step 11 22 #[.int .u32 s.gd] HR7.out).2.1⟩
              case rest =>
                obtain ⟨a11, hr8, ho8, hn8, hm8, hg8⟩ := hcut
                rename World => w8
                clear x812 x813
                have HR8 : Hid (w8.heap[w3.heap.size]? = some (.cells #[.string s.name, .int .u32 s.prec, .int .u32 s.rg, .slice fq s.flows.length fl, .bool s.media, .pointer a5, .int .u32 s.qci, .pointer a7, .pointer a8, .pointer none, .pointer none, .pointer a11, .pointer none] 59)) := hr8
                have HO8 : Hid (OptU w8 w8.heap.size (.pointer a11) (optB s.hgd s.gd)) := ho8
                have HN8 : Hid (NeP w.heap.size a11 ∧ NeP w3.heap.size a11) := ⟨hn8, hm8⟩
                have hz8 := hg8.size
                have hb8 : w3.heap.size < w8.heap.size := by omega
                have hbx8 : wr.heap.size < w8.heap.size := by omega
                have HXB8 : Hid (w8.heap[wr.heap.size]? = some (.cells #[.string s.name, .int .u32 s.prec, .int .u32 s.rg, .slice fp s.flows.length fk, .bool s.media, .bool s.hfs, .int .u32 s.fs, .int .u32 s.qci, .bool s.harp, .int .u32 s.arp, .bool s.hmu, .int .u32 s.mu, .bool s.hgd, .int .u32 s.gd, .bool s.hred, .string s.uri, .bool s.su] 72)) := (hg8.block _ (by omega) (by simp; omega)).trans HXB7.out
                have HG8 : Hid (w7.grownBy w8 (some w3.heap.size)) := hg8
                clear hr8 ho8 hn8 hm8 hg8 HXB7
                have x914 : w8.cell? ⟨wr.heap.size, 14, none⟩ = some (.bool s.hred) := by simp [World.cell?, HXB8.out]
                have x915 : w8.cell? ⟨wr.heap.size, 15, none⟩ = some (.string s.uri) := by simp [World.cell?, HXB8.out]
                have x916 : w8.cell? ⟨wr.heap.size, 16, none⟩ = some (.bool s.su) := by simp [World.cell?, HXB8.out]
                go_upto_if 71 with fail
                go_cut [] (fun wc => ∃ a12, wc.heap[w3.heap.size]? = some (.cells #[.string s.name, .int .u32 s.prec, .int .u32 s.rg, .slice fq s.flows.length fl, .bool s.media, .pointer a5, .int .u32 s.qci, .pointer a7, .pointer a8, .pointer none, .pointer none, .pointer a11, .pointer a12] 59) ∧ OptR wc wc.heap.size (.pointer a12) (optS s.hred s.uri s.su) ∧ NeP w.heap.size a12 ∧ NeP w3.heap.size a12 ∧ w8.grownBy wc (some w3.heap.size))
                case first =>
                  cases ht : s.hred
                  · go_wp2_with fail
                    go_meet
                    case rel => exact ⟨none, HR8.out, OptR.unboxed ht, NeP.nil _, NeP.nil _, World.grownBy.refl _ _⟩
                  · have rc : w8.cell? ⟨w3.heap.size, 12, none⟩ = some (.pointer none) := by simp [World.cell?, HR8.out]
                    have rf : w8.frozen? ⟨w3.heap.size, 12, none⟩ = false := by simp [World.frozen?, HR8.out]
                    go_wp2_with fail
                    go_meet
                    case rel => first | exact ⟨some ⟨w8.heap.size, 0, none⟩, by simpa using (box_step 12 75 #[.int .i64 0, .string s.uri, .bool s.su] HR8.out).1, OptR.boxed (box_step 12 75 #[.int .i64 0, .string s.uri, .bool s.su] HR8.out).2.2 (by simp) ht, NeP.at_ (by omega) _, NeP.at_ (by omega) _, (box_step 12 75 #[.int .i64 0, .string s.uri, .bool s.su] HR8.out).2.1⟩ | exact ⟨some ⟨w8.heap.size, 0, none⟩, by simpa using (box_next 12 75 #[.int .i64 0, .string s.uri, .bool s.su] HR8.out).1, OptR.boxed (box_next 12 75 #[.int .i64 0, .string s.uri, .bool s.su] HR8.out).2.2 (by simp) ht, NeP.at_ (by omega) _, NeP.at_ (by omega) _, (box_next 12 75 #[.int .i64 0, .string s.uri, .bool s.su] HR8.out).2.1⟩
                case rest =>
                  obtain ⟨a12, hr9, ho9, hn9, hm9, hg9⟩ := hcut
                  rename World => w9
                  clear x914 x915 x916
                  have HR9 : Hid (w9.heap[w3.heap.size]? = some (.cells #[.string s.name, .int .u32 s.prec, .int .u32 s.rg, .slice fq s.flows.length fl, .bool s.media, .pointer a5, .int .u32 s.qci, .pointer a7, .pointer a8, .pointer none, .pointer none, .pointer a11, .pointer a12] 59)) := hr9
                  have HO9 : Hid (OptR w9 w9.heap.size (.pointer a12) (optS s.hred s.uri s.su)) := ho9
                  have HN9 : Hid (NeP w.heap.size a12 ∧ NeP w3.heap.size a12) := ⟨hn9, hm9⟩
                  have hz9 := hg9.size
                  have hb9 : w3.heap.size < w9.heap.size := by omega
                  have hbx9 : wr.heap.size < w9.heap.size := by omega
                  have HXB9 : Hid (w9.heap[wr.heap.size]? = some (.cells #[.string s.name, .int .u32 s.prec, .int .u32 s.rg, .slice fp s.flows.length fk, .bool s.media, .bool s.hfs, .int .u32 s.fs, .int .u32 s.qci, .bool s.harp, .int .u32 s.arp, .bool s.hmu, .int .u32 s.mu, .bool s.hgd, .int .u32 s.gd, .bool s.hred, .string s.uri, .bool s.su] 72)) := (hg9.block _ (by omega) (by simp; omega)).trans HXB8.out
                  have HG9 : Hid (w8.grownBy w9 (some w3.heap.size)) := hg9
                  clear hr9 ho9 hn9 hm9 hg9 HXB8
                  have D9 : Below w3.heap.size w3 w9 := ((((E4.grown HG5.out (by omega) (by simp)).grown HG6.out (by omega) (by simp)).grown HG7.out (by omega) (by simp)).grown HG8.out (by omega) (by simp)).grown HG9.out (by omega) (by simp)
                  have F9 := HF3.out.later D9
                  have S9 := HS3.out.later D9 D9.size
                  have O5 := ((((HO5.out.keep HN5.out.2 HG6.out (Nat.le_refl _)).keep HN5.out.2 HG7.out (by omega)).keep HN5.out.2 HG8.out (by omega)).keep HN5.out.2 HG9.out (by omega)).mono (B' := w9.heap.size) (by omega)
                  have O6 := (((HO6.out.keep HN6.out.2 HG7.out (Nat.le_refl _)).keep HN6.out.2 HG8.out (by omega)).keep HN6.out.2 HG9.out (by omega)).mono (B' := w9.heap.size) (by omega)
                  have O7 := ((HO7.out.keep HN7.out.2 HG8.out (Nat.le_refl _)).keep HN7.out.2 HG9.out (by omega)).mono (B' := w9.heap.size) (by omega)
                  have O8 := (HO8.out.keep HN8.out.2 HG9.out (Nat.le_refl _)).mono (B' := w9.heap.size) (by omega)
                  have O9 := HO9.out
                  have hlk : ((ss.take k).map toRule).length = k := by simp; omega
                  have F10 := F9.step (r := toRule s) (fp := fq) (fk := fl) (afs := a5) (aarp := a7) (amu := a8) (amd := none) (agu := none) (agd := a11) (ared := a12) (by omega) ⟨HN3.out, HN5.out.1, HN6.out.1, HN7.out.1, NeP.nil _, NeP.nil _, HN8.out.1, HN9.out.1⟩ S9 O5 O6 O7 (.inl ⟨rfl, rfl⟩) (.inl ⟨rfl, rfl⟩) O8 O9
                  rw [hlk] at F10
                  have HF10 : Hid (FillR (set13at w9 w.heap.size (k * 13) (.string s.name) (.int .u32 s.prec) (.int .u32 s.rg) (.slice fq s.flows.length fl) (.bool s.media) (.pointer a5) (.int .u32 s.qci) (.pointer a7) (.pointer a8) (.pointer none) (.pointer none) (.pointer a11) (.pointer a12)) w.heap.size ss.length ((ss.take k).map toRule ++ [toRule s])) := F10
                  have E9 : Below wr.heap.size wr w9 := (E2.trans (E3.mono E2.size)).trans (D9.mono (by omega))
                  have HE9 : Hid (Below wr.heap.size wr w9) := E9
                  obtain ⟨z0, z1, z2, z3, z4, z5, z6, z7, z8, z9, z10, z11, z12, hz0x, hz1x, hz2x, hz3x, hz4x, hz5x, hz6x, hz7x, hz8x, hz9x, hz10x, hz11x, hz12x, hy0x, hy1x, hy2x, hy3x, hy4x, hy5x, hy6x, hy7x, hy8x, hy9x, hy10x, hy11x, hy12x⟩ := F9.cells hlt
                  clear F9 S9 O5 O6 O7 O8 O9 F10 D9 E9
                  obtain ⟨r0, r1, r2, r3, r4, r5, r6, r7, r8, r9, r10, r11, r12⟩ := cells13 HR9.out
                  have hgw9 : w.heap.size < w9.heap.size := by omega
                  go_wp2_with fail
                  go_roundw
                  case rel =>
                    refine ⟨k + 1, by omega, by go_num, ?_, ?_⟩
                    · rw [HSN.out]
                      simp only [List.map_append, List.map_cons, List.map_nil]
                      exact HF10.out
                    · have g1 : w0.grownBy w9 (some w.heap.size) := ⟨HE9.out.os.trans Gr.os, HE9.out.tape.trans Gr.tape, HE9.out.output.trans Gr.output, Nat.le_trans Gr.size HE9.out.size, fun i hi hne => (HE9.out.block i (by omega)).trans (Gr.block i hi hne)⟩
                      exact grown_trans g1 (grown_set13at w9 w.heap.size (k * 13) _ _ _ _ _ _ _ _ _ _ _ _ _)
                  case measure => simp [intOf]; omega
    · have hk' : k = ss.length := by omega
      subst hk'
      rw [List.take_length] at F1
      go_wp2_with fail
      go_ret
      obtain ⟨cur, f1, f2, f3⟩ := F1
      exact ⟨w.heap.size, rfl, B1, heap_lt f1, fun i r hi => (f3 i r hi).at_⟩

end Go.Proofs.YbulkaroiDoor
