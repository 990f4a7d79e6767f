import Derived.Test.YbulkaroiDoorBuild
set_option linter.unusedVariables false
namespace Go.Proofs.YbulkaroiDoor
open Go.RowKit Go.Deep

/-- The rules as they are built. -/
def Built (w : World) (rs : List Rule) (e : Ending) (w' : World) : Prop :=
  ∃ g, e = .returned (.slice (some ⟨g, 0, none⟩) rs.length rs.length) ∧ Below w.heap.size w w' ∧ g < w'.heap.size ∧ RulesAt w' w'.heap.size g rs

theorem build_built (sp : Option Addr) (cap : Nat) (ss : List Src) (w : World) (hat : SrcsAt w sp ss) (hsi : ∀ s ∈ ss, SrcInts s) (hfl : ∀ s ∈ ss, s.flows.length ≤ 4000) (hn : ss.length ≤ 256) :
    Calls Ybad.prog 6 #[.slice sp ss.length cap] w fun e w' => Built w (ss.map toRule) e w' := by
  refine (build_calls sp cap ss w hat hsi hfl hn).mono ?_
  rintro e w' ⟨g, rfl, h1, h2, h3⟩
  exact ⟨g, by simp, h1, h2, h3⟩

theorem cells13_later {w w' : World} {b o : Nat} {v0 v1 v2 v3 v4 v5 v6 v7 v8 v9 v10 v11 v12 : Value} (hb : Below w.heap.size w w') (h : w.cell? ⟨b, o, none⟩ = some v0 ∧ w.cell? ⟨b, o + 1, none⟩ = some v1 ∧ w.cell? ⟨b, o + 2, none⟩ = some v2 ∧ w.cell? ⟨b, o + 3, none⟩ = some v3 ∧ w.cell? ⟨b, o + 4, none⟩ = some v4 ∧ w.cell? ⟨b, o + 5, none⟩ = some v5 ∧ w.cell? ⟨b, o + 6, none⟩ = some v6 ∧ w.cell? ⟨b, o + 7, none⟩ = some v7 ∧ w.cell? ⟨b, o + 8, none⟩ = some v8 ∧ w.cell? ⟨b, o + 9, none⟩ = some v9 ∧ w.cell? ⟨b, o + 10, none⟩ = some v10 ∧ w.cell? ⟨b, o + 11, none⟩ = some v11 ∧ w.cell? ⟨b, o + 12, none⟩ = some v12) : w'.cell? ⟨b, o, none⟩ = some v0 ∧ w'.cell? ⟨b, o + 1, none⟩ = some v1 ∧ w'.cell? ⟨b, o + 2, none⟩ = some v2 ∧ w'.cell? ⟨b, o + 3, none⟩ = some v3 ∧ w'.cell? ⟨b, o + 4, none⟩ = some v4 ∧ w'.cell? ⟨b, o + 5, none⟩ = some v5 ∧ w'.cell? ⟨b, o + 6, none⟩ = some v6 ∧ w'.cell? ⟨b, o + 7, none⟩ = some v7 ∧ w'.cell? ⟨b, o + 8, none⟩ = some v8 ∧ w'.cell? ⟨b, o + 9, none⟩ = some v9 ∧ w'.cell? ⟨b, o + 10, none⟩ = some v10 ∧ w'.cell? ⟨b, o + 11, none⟩ = some v11 ∧ w'.cell? ⟨b, o + 12, none⟩ = some v12 := by
  obtain ⟨h0, h1, h2, h3, h4, h5, h6, h7, h8, h9, h10, h11, h12⟩ := h
  exact ⟨cell_later hb h0, cell_later hb h1, cell_later hb h2, cell_later hb h3, cell_later hb h4, cell_later hb h5, cell_later hb h6, cell_later hb h7, cell_later hb h8, cell_later hb h9, cell_later hb h10, cell_later hb h11, cell_later hb h12⟩

theorem below_drewN (w : World) (q : Nat) : Below w.heap.size w (w.drewN q) := ⟨rfl, rfl, rfl, Nat.le_refl _, fun _ _ => rfl⟩

theorem heap_alloc_first (w : World) (cs : Array Value) (t : TypeId) (o : Obj) : ((w.alloc (.cells cs t)).alloc o).heap[w.heap.size]? = some (.cells cs t (0, 0)) := by
  have g := World.grownBy_alloc (w.alloc (.cells cs t)) o none
  exact (g.block _ (by simp) (by simp)).trans (heap_alloc_new w _)

set_option maxRecDepth 100000 in
set_option maxHeartbeats 4000000 in
theorem agrees_calls (feat dq da : Int) (sp : Option Addr) (cap : Nat) (ss : List Src) (w : World) (hG : Globals w) (hat : SrcsAt w sp ss) (hf : ∀ s ∈ ss, SrcFine s) :
    Calls Ybad.prog 3 #[.int .u32 feat, .int .u32 dq, .int .u32 da, .slice sp ss.length cap] w fun e w' => e = .returned (.bool true) ∧ Below w.heap.size w w' := by
  have HG : Hid (Globals w) := hG
  have HAT : Hid (SrcsAt w sp ss) := hat
  have HF : Hid (∀ s ∈ ss, SrcFine s) := hf
  clear hG hat hf
  go_enter Ybad.func3, Ybad.ntmps3
  by_cases hbig : 256 < ss.length
  · have hbig' : (256 : Int) < ss.length := by omega
    go_wp2_with fail
    go_ret
    exact ⟨rfl, Below.refl _ _⟩
  · go_wp2_with fail
    refine (size_calls sp cap ss w HAT.out (fun s hs => (HF.out s hs).2.2) (by omega)).mono ?_
    rintro e w1 ⟨n, rfl, hn, q, rfl⟩
    by_cases hn6 : 65536 < n
    · have hn6' : (65536 : Int) < n := by omega
      go_wp2_with fail
      go_ret
      exact ⟨rfl, below_drewN _ _⟩
    · have hss := hn (by omega)
      have HSS : Hid (ssizes ss ≤ 65536) := hss
      clear hn hss
      go_wp2_with fail
      refine (build_built sp cap ss _ HAT.out.drewN (fun s hs => (HF.out s hs).2.1) (flows_few ss HSS.out) (by omega)).mono ?_
      have HOK : Hid (∀ r ∈ ss.map toRule, RuleOk r) := rules_ok ss HF.out HSS.out
      have hnr : (ss.map toRule).length ≤ 256 := by simp; omega
      have hsum : wires (defsOf feat dq da (ss.map toRule)) ≤ 90000000 := by have h1 := defs_wires feat dq da ss; have h2 := HSS.out; omega
      generalize ss.map toRule = rs at *
      rintro e w2 ⟨rb, rfl, hb2, hrb2, hR2⟩
      have B2 : Below w.heap.size w w2 := (below_drewN _ _).trans hb2
      have HR2 : Hid (RulesAt w2 w2.heap.size rb rs) := hR2
      have HS : Hid (wires (defsOf feat dq da rs) ≤ 90000000) := hsum
      clear hb2 hR2 hsum hbig hn6 HSS HF HAT
      go_wp2_with fail
      refine (sess_calls feat dq da w2).mono ?_
      rintro e w3 ⟨rfl, hb3, s0, s1⟩
      have B3 := B2.trans (hb3.mono B2.size)
      have hz3 := hb3.size
      have HR3 : Hid (RulesAt w3 w3.heap.size rb rs) := HR2.out.later hb3
      have HG3 : Hid (Globals w3) := HG.out.later B3
      have HC3 : Hid (w3.cell? ⟨w2.heap.size + 1, 0, none⟩ = some (.int .u32 dq) ∧ w3.cell? ⟨w2.heap.size + 1, 1, none⟩ = some (.int .u32 da)) := ⟨s0, s1⟩
      clear hb3 HR2 s0 s1
      go_wp2_with fail
      have hin := install_calls feat dq da (w2.heap.size + 1) rb rs.length rs w3 HG3.out HC3.out.1 HC3.out.2 HR3.out HOK.out hnr HS.out
      generalize hX : mk 0 (allB (defsOf feat dq da rs)) = x at hin
      refine hin.mono ?_
      clear hin
      have HX : Hid (mk 0 (allB (defsOf feat dq da rs)) = x) := hX
      clear hX
      rintro e w4 ⟨p4, k4, rfl, hp4, hb4, hs4⟩
      have B4 := B3.trans (hb4.mono B3.size)
      have hz4 := hb4.size
      have HR4 : Hid (RulesAt w4 w4.heap.size rb rs) := HR3.out.later hb4
      have HD4 : Hid (SrcOk w4 p4 x.d) := hs4
      have HB4 : Hid (Below w.heap.size w w4) := B4
      have hrb4 : rb < w4.heap.size := by omega
      have hw4 : w.heap.size ≤ w4.heap.size := B4.size
      clear hb4 hs4 HR3 HG3 HC3 B4 B3 B2 hz3 hz4 hrb2
      have hmk := make_avps rs.length (by omega)
      go_wp2_with fail
      clear hmk
      have B5 : Below w4.heap.size w4 ((w4.alloc (.cells #[.int .u32 x.c, .int .u8 x.f, .int .u32 x.v, .slice p4 x.d.length k4] 29)).alloc (.cells (madeCells #[.int .u32 0, .int .u8 0, .int .u32 0, .slice none 0 0] (rs.length * 4)) 29)) := ((Below.refl _ _).alloc (Nat.le_refl _) _).alloc (by simp) _
      have HBX : Hid (((w4.alloc (.cells #[.int .u32 x.c, .int .u8 x.f, .int .u32 x.v, .slice p4 x.d.length k4] 29)).alloc (.cells (madeCells #[.int .u32 0, .int .u8 0, .int .u32 0, .slice none 0 0] (rs.length * 4)) 29)).heap[w4.heap.size]? = some (.cells #[.int .u32 x.c, .int .u8 x.f, .int .u32 x.v, .slice p4 x.d.length k4] 29 (0, 0))) := heap_alloc_first _ _ _ _
      have F0 : Fill ((w4.alloc (.cells #[.int .u32 x.c, .int .u8 x.f, .int .u32 x.v, .slice p4 x.d.length k4] 29)).alloc (.cells (madeCells #[.int .u32 0, .int .u8 0, .int .u32 0, .slice none 0 0] (rs.length * 4)) 29)) (w4.heap.size + 1) rs.length [] := Fill.made _ _ _ _ (by simp) (by simp [size_madeCells])
      have hz5 : ((w4.alloc (.cells #[.int .u32 x.c, .int .u8 x.f, .int .u32 x.v, .slice p4 x.d.length k4] 29)).alloc (.cells (madeCells #[.int .u32 0, .int .u8 0, .int .u32 0, .slice none 0 0] (rs.length * 4)) 29)).heap.size = w4.heap.size + 1 + 1 := by simp
      generalize ((w4.alloc (.cells #[.int .u32 x.c, .int .u8 x.f, .int .u32 x.v, .slice p4 x.d.length k4] 29)).alloc (.cells (madeCells #[.int .u32 0, .int .u8 0, .int .u32 0, .slice none 0 0] (rs.length * 4)) 29)) = w5 at *
      have hgd0 : w4.heap.size < w4.heap.size + 1 := by omega
      have hgd1 : w4.heap.size + 1 < w5.heap.size := by omega
      generalize w4.heap.size + 1 = gd at *
      clear hz5
      go_loopw [12] (fun i wr => ∃ k : Nat, k ≤ rs.length ∧ i = .int .i64 k ∧ Fill wr gd rs.length (defsOf feat dq da (rs.take k)) ∧ w5.grownBy wr (some gd)) (fun i _ => rs.length - (intOf i).toNat)
      case atStart => exact ⟨0, Nat.zero_le _, rfl, by simpa [defsOf] using F0, ⟨rfl, rfl, rfl, Nat.le_refl _, fun _ _ _ => rfl⟩⟩
      case round =>
        obtain ⟨k, hk, rfl, F1, Gr⟩ := hrel
        have B1 : Below w4.heap.size w4 wr := B5.grown Gr B5.size (fun k e => by cases e; omega)
        have hzr : w5.heap.size ≤ wr.heap.size := Gr.size
        by_cases hlt : k < rs.length
        · have hget : rs[k]? = some rs[k] := List.getElem?_eq_getElem hlt
          have hrok := HOK.out rs[k] (List.getElem_mem hlt)
          have hra := (HR4.out k _ hget).later (B := 0) B1
          have hsn := take_snoc rs k rs[k] hget
          generalize rs[k] = r at *
          have HSN : Hid (rs.take (k + 1) = rs.take k ++ [r]) := hsn
          have HRK : Hid (RuleOk r) := hrok
          clear hsn hget hrok
          obtain ⟨fp, fk, afs, aarp, amu, amd, agu, agd, ared, hcs, q1, q2, q3, q4, q5, q6, q7, q8⟩ := hra
          have HQ : Hid (StrsAt wr wr.heap.size fp r.flows ∧ OptU wr wr.heap.size (.pointer afs) r.fs ∧ OptU wr wr.heap.size (.pointer aarp) r.arp ∧ OptU wr wr.heap.size (.pointer amu) r.mu ∧ OptU wr wr.heap.size (.pointer amd) r.md ∧ OptU wr wr.heap.size (.pointer agu) r.gu ∧ OptU wr wr.heap.size (.pointer agd) r.gd ∧ OptR wr wr.heap.size (.pointer ared) r.red) := ⟨q1, q2, q3, q4, q5, q6, q7, q8⟩
          have HC : Hid (wr.cell? ⟨rb, k * 13, none⟩ = some (.string r.name) ∧ wr.cell? ⟨rb, k * 13 + 1, none⟩ = some (.int .u32 r.prec) ∧ wr.cell? ⟨rb, k * 13 + 2, none⟩ = some (.int .u32 r.rg) ∧ wr.cell? ⟨rb, k * 13 + 3, none⟩ = some (.slice fp r.flows.length fk) ∧ wr.cell? ⟨rb, k * 13 + 4, none⟩ = some (.bool r.media) ∧ wr.cell? ⟨rb, k * 13 + 5, none⟩ = some (.pointer afs) ∧ wr.cell? ⟨rb, k * 13 + 6, none⟩ = some (.int .u32 r.qci) ∧ wr.cell? ⟨rb, k * 13 + 7, none⟩ = some (.pointer aarp) ∧ wr.cell? ⟨rb, k * 13 + 8, none⟩ = some (.pointer amu) ∧ wr.cell? ⟨rb, k * 13 + 9, none⟩ = some (.pointer amd) ∧ wr.cell? ⟨rb, k * 13 + 10, none⟩ = some (.pointer agu) ∧ wr.cell? ⟨rb, k * 13 + 11, none⟩ = some (.pointer agd) ∧ wr.cell? ⟨rb, k * 13 + 12, none⟩ = some (.pointer ared)) := hcs
          obtain ⟨c0, c1, c2, c3, c4, c5, c6, c7, c8, c9, c10, c11, c12⟩ := hcs
          clear q1 q2 q3 q4 q5 q6 q7 q8
          have hgw : gd < wr.heap.size := by omega
          have ng1 : ¬ gd = rb := by omega
          have HGw : Hid (Globals wr) := HG.out.later (HB4.out.trans (B1.mono HB4.out.size))
          have HF1 : Hid (Fill wr gd rs.length (defsOf feat dq da (rs.take k))) := F1
          go_wp2_with fail
          go_region_held3 (fun w' => w'.cell? ⟨rb, k * 13, none⟩ = some (.string r.name) ∧ w'.cell? ⟨rb, k * 13 + 1, none⟩ = some (.int .u32 r.prec) ∧ w'.cell? ⟨rb, k * 13 + 2, none⟩ = some (.int .u32 r.rg) ∧ w'.cell? ⟨rb, k * 13 + 3, none⟩ = some (.slice fp r.flows.length fk) ∧ w'.cell? ⟨rb, k * 13 + 4, none⟩ = some (.bool r.media) ∧ w'.cell? ⟨rb, k * 13 + 5, none⟩ = some (.pointer afs) ∧ w'.cell? ⟨rb, k * 13 + 6, none⟩ = some (.int .u32 r.qci) ∧ w'.cell? ⟨rb, k * 13 + 7, none⟩ = some (.pointer aarp) ∧ w'.cell? ⟨rb, k * 13 + 8, none⟩ = some (.pointer amu) ∧ w'.cell? ⟨rb, k * 13 + 9, none⟩ = some (.pointer amd) ∧ w'.cell? ⟨rb, k * 13 + 10, none⟩ = some (.pointer agu) ∧ w'.cell? ⟨rb, k * 13 + 11, none⟩ = some (.pointer agd) ∧ w'.cell? ⟨rb, k * 13 + 12, none⟩ = some (.pointer ared)) (go_keep)
            (first
              | (go_at_call 10; (with_reducible refine (mark_calls r feat dq da 0 afs aarp amu amd agu agd ared fp fk _ ?_).mono ?_); (exact HQ.out.2.2.1); rintro e w6 ⟨am, rfl, hom, hbel6⟩; have D6 : Below wr.heap.size wr w6 := (Below.refl _ _).drew.trans hbel6; obtain ⟨d0, d1, d2, d3, d4, d5, d6, d7, d8, d9, d10, d11, d12⟩ := cells13_later D6 HC.out)
              | (go_at_call 9; (with_reducible refine (rule_gave r (markOf feat dq da r) am afs aarp amu amd agu agd ared fp fk _ HRK.out ?_ ?_ ?_ ?_ ?_ ?_ ?_ ?_ ?_ ?_).mono ?_); (exact HGw.out.later D6); (exact hom); (exact HQ.out.1.later D6 D6.size); (exact (HQ.out.2.1.later D6).mono D6.size); (exact (HQ.out.2.2.1.later D6).mono D6.size); (exact (HQ.out.2.2.2.1.later D6).mono D6.size); (exact (HQ.out.2.2.2.2.1.later D6).mono D6.size); (exact (HQ.out.2.2.2.2.2.1.later D6).mono D6.size); (exact (HQ.out.2.2.2.2.2.2.1.later D6).mono D6.size); (exact HQ.out.2.2.2.2.2.2.2.later D6 D6.size); rintro e w7 ⟨p7, k7, rfl, hp7, hbel7, hs7⟩; have D7 := D6.trans (hbel7.mono D6.size); have F7 := HF1.out.later D7; obtain ⟨e0, e1, e2, e3, e4, e5, e6, e7, e8, e9, e10, e11, e12⟩ := cells13_later D7 HC.out; obtain ⟨z0, z1, z2, z3, hz0, hz1, hz2, hz3, hy0, hy1, hy2, hy3⟩ := F7.cells hlt))
          go_wp2_with fail
          go_roundw
          case rel =>
            have hlk : (defsOf feat dq da (rs.take k)).length = k := by simp [defsOf]; omega
            have F8 := F7.step (x := ruleA r (markOf feat dq da r)) (p := p7) (k := k7) (by omega) hp7 hs7
            have hd : defsOf feat dq da (rs.take (k + 1)) = defsOf feat dq da (rs.take k) ++ [ruleA r (markOf feat dq da r)] := by rw [HSN.out]; simp [defsOf]
            refine ⟨k + 1, by omega, by go_num, ?_, ?_⟩
            · rw [hd]
              rw [hlk] at F8
              exact F8
            · have g1 : w5.grownBy w7 (some gd) := ⟨D7.os.trans Gr.os, D7.tape.trans Gr.tape, D7.output.trans Gr.output, Nat.le_trans Gr.size D7.size, fun i hi hne => (D7.block i (by omega)).trans (Gr.block i hi hne)⟩
              exact grown_trans g1 (grown_set4at w7 gd (k * 4) _ _ _ _)
          case measure => simp [intOf]; omega
        · have hk' : k = rs.length := by omega
          subst hk'
          rw [List.take_length] at F1
          have BW := HB4.out.trans (B1.mono HB4.out.size)
          have G1 := HG.out.later BW
          obtain ⟨u0, u1, u2⟩ := G1 0 (by decide) (by decide)
          clear G1
          obtain ⟨cur, fb, fs, fat⟩ := F1
          have hdl : (defsOf feat dq da rs).length = rs.length := by simp [defsOf]
          have hbx1 : wr.heap[w4.heap.size]? = some (.cells #[.int .u32 x.c, .int .u8 x.f, .int .u32 x.v, .slice p4 x.d.length k4] 29 (0, 0)) := (Gr.block _ (by omega) (by simp; omega)).trans HBX.out
          have HBX1 : Hid (wr.heap[w4.heap.size]? = some (.cells #[.int .u32 x.c, .int .u8 x.f, .int .u32 x.v, .slice p4 x.d.length k4] 29 (0, 0))) := hbx1
          clear hbx1
          go_wp2_with fail
          have hgr := grouped_gave 0 gd rs.length (defsOf feat dq da rs) wr fat (defs_ok feat dq da rs HOK.out) (by omega) HS.out
          rw [HX.out, hdl] at hgr
          refine hgr.mono ?_
          rintro e w9 ⟨p9, k9, rfl, hp9, hb9, hs9⟩
          have hbx9 := (hb9.block _ (heap_lt HBX1.out)).trans HBX1.out
          have s4 : SrcOk w9 p4 x.d := (HD4.out.later B1).later hb9
          have B9 := BW.trans (hb9.mono BW.size)
          have i0 : w9.cell? ⟨w4.heap.size, 0, none⟩ = some (.int .u32 x.c) := by simp [World.cell?, hbx9]
          have i1 : w9.cell? ⟨w4.heap.size, 1, none⟩ = some (.int .u8 x.f) := by simp [World.cell?, hbx9]
          have i2 : w9.cell? ⟨w4.heap.size, 2, none⟩ = some (.int .u32 x.v) := by simp [World.cell?, hbx9]
          have i3 : w9.cell? ⟨w4.heap.size, 3, none⟩ = some (.slice p4 x.d.length k4) := by simp [World.cell?, hbx9]
          have hlt9 : w4.heap.size < w9.heap.size := heap_lt hbx9
          have HS9 : Hid (SrcOk w9 p9 x.d ∧ SrcOk w9 p4 x.d) := ⟨hs9, s4⟩
          clear hbx9 s4 hs9
          go_wp2_with fail
          refine (eq_calls x p4 p9 k4 k9 _ (HS9.out.2.later ((Below.refl _ _).alloc (Nat.le_refl _) _)) (HS9.out.1.later ((Below.refl _ _).alloc (Nat.le_refl _) _))).mono ?_
          rintro e w10 ⟨rfl, hb10⟩
          go_wp2_with fail
          go_ret
          exact ⟨rfl, (B9.alloc B9.size _).trans (hb10.mono (by have := B9.size; simp; omega))⟩

end Go.Proofs.YbulkaroiDoor
