import Derived.Test.YbulkaroiDoorInst
set_option linter.unusedVariables false
namespace Go.Proofs.YbulkaroiDoor
open Go.RowKit Go.Deep

/-- A new AVP as the call gives it back, its data's slice no longer than its capacity. -/
def GaveCap (w : World) (x : Avp) (e : Ending) (w' : World) : Prop :=
  ∃ p k, e = .returned (.agg #[.int .u32 x.c, .int .u8 x.f, .int .u32 x.v, .slice p x.d.length k]) ∧ (p = none → k = 0) ∧ x.d.length ≤ k ∧ Below w.heap.size w w' ∧ SrcOk w' p x.d

theorem row_cap {w : World} {B n k : Nat} {t : TypeId} {p : Option Addr} {xs : List Value} (h : w.ownsRow B t 1 (.slice p n k) n xs) : n ≤ k := by
  rcases h.2 with ⟨-, h0⟩ | ⟨g, cap, cur, h0, -, -, hnc, -⟩
  · omega
  · cases h0; exact hnc

theorem GaveAvp.cap {w w' : World} {x : Avp} {p : Option Addr} {k : Nat} (h : GaveAvp w x (.returned (.agg #[.int .u32 x.c, .int .u8 x.f, .int .u32 x.v, .slice p x.d.length k])) w') (hk : x.d.length ≤ k) : GaveCap w x (.returned (.agg #[.int .u32 x.c, .int .u8 x.f, .int .u32 x.v, .slice p x.d.length k])) w' := by
  obtain ⟨p', k', e, h1, h2, h3⟩ := h
  simp only [Ending.returned.injEq, Value.agg.injEq] at e
  have e1 := congrArg (fun a => a[3]?) e
  simp only [List.getElem?_toArray, List.getElem?_cons_succ, List.getElem?_cons_zero, Option.some.injEq, Value.slice.injEq, true_and] at e1
  obtain ⟨rfl, rfl⟩ := e1
  exact ⟨p, k, rfl, h1, hk, h2, h3⟩

set_option maxHeartbeats 1000000 in
theorem grouped_cap (c v : Int) (m : Bool) (b cap : Nat) (ls : List Avp) (w : World) (hat : AvpsAt w b ls) (hok : ∀ a ∈ ls, AvpOk a) (hll : ls.length ≤ 100000000) (hw : wires ls ≤ 90000000) :
    Calls Ybad.prog 11 #[.agg #[.int .u32 c, .int .u32 v, .bool m], .slice (some ⟨b, 0, none⟩) ls.length cap] w fun e w' => GaveCap w ⟨c, flagsOf v m, v, allB ls⟩ e w' := by
  have hmk : ∀ W : World, (Instr.makeSlice 27 (.int .i64 0) (.int .i64 (wires ls : Int))).run Ybad.prog W = .ok (.slice (some ⟨W.heap.size, 0, none⟩) 0 (wires ls)) (W.alloc (.cells (madeCells #[.int .u8 0] (wires ls)) 5)) := by
    intro W
    obtain ⟨i, hi, hxx⟩ := Option.map_eq_some_iff.1 Ybad.info5'
    simp only [Prod.mk.injEq] at hxx
    obtain ⟨hz0, hz1, hz2⟩ := hxx
    have hr := run_make (P := Ybad.prog) W 27 5 i (.int .u8 0) Ybad.underlying27 hi hz0 .i64 .i64 0 (wires ls : Int) (by omega) (by omega) (by rw [hz2]; omega) (by omega)
    rw [hz1] at hr
    simpa [Value.cells] using hr
  have HAT : Hid (AvpsAt w b ls) := hat
  have HOK : Hid (∀ a ∈ ls, AvpOk a) := hok
  have hok' := hok
  clear hok
  go_enter Ybad.func11, Ybad.ntmps11
  go_wp2_with fail
  refine (wireLen_calls b cap ls _ (hat.later (((Below.refl _ _).alloc (Nat.le_refl _) _).alloc (by simp) _)) hok' hll (by omega)).mono ?_
  rintro e w1 ⟨rfl, hbel1⟩
  clear hat hok'
  have hBel : Below w.heap.size w w1 := (((Below.refl _ _).alloc (Nat.le_refl _) _).alloc (by simp) _).trans (hbel1.mono (by simp; omega))
  have hzz : w.heap.size + 1 + 1 ≤ w1.heap.size := by have := hbel1.size; simp at this; omega
  go_wp2_with fail
  clear hmk
  go_loopw [5, 13] (fun bv i wr => ∃ k : Nat, k ≤ ls.length ∧ i = .int .i64 k ∧ wr.ownsRow w1.heap.size 5 1 bv (wires (ls.take k)) ((allB (ls.take k)).map u8) ∧ Below w1.heap.size w1 wr) (fun _ i _ => ls.length - (intOf i).toNat)
  case atStart =>
    refine ⟨0, Nat.zero_le _, rfl, ?_, (Below.refl _ _).alloc (Nat.le_refl _) _⟩
    exact World.ownsRow_made w1 _ _ (Nat.le_refl _) (by unfold maxLen; omega) (by simp [size_madeCells])
  case round =>
    obtain ⟨k, hk, rfl, hown, hbel⟩ := hrel
    have hzr := hbel.size
    by_cases hlt : k < ls.length
    · have hget : ls[k]? = some ls[k] := List.getElem?_eq_getElem hlt
      have hokk := HOK.out ls[k] (List.getElem_mem hlt)
      have hat1 := ((HAT.out) k _ hget).later hBel
      obtain ⟨p, kk, c0, c1, c2, c3, hp, hs⟩ := hat1
      have c0' := cell_later hbel c0
      have c1' := cell_later hbel c1
      have c2' := cell_later hbel c2
      have c3' := cell_later hbel c3
      clear c0 c1 c2 c3
      have hsn := wires_snoc (ls.take k) ls[k]
      have hsb := allB_snoc (ls.take k) ls[k]
      rw [← take_snoc ls k ls[k] hget] at hsn hsb
      have hle := wires_take_le ls k
      have h4 := wires_four (ls.take k)
      generalize ls[k] = a at *
      obtain ⟨⟨o1, o2⟩, ⟨o3, o4⟩, hf, hd⟩ := hokk
      have HSN : Hid (wires (ls.take (k + 1)) = wires (ls.take k) + wire a) := hsn
      have HSB : Hid (allB (ls.take (k + 1)) = allB (ls.take k) ++ avpB a.c a.f a.v a.d) := hsb
      clear hsn hsb hget
      go_wp2_with fail
      refine (append_calls w1 w1.heap.size a.c a.f a.v p a.d.length kk a.d _ (wires (ls.take k)) (allB (ls.take k)) _ o1 o2 o3 o4 hf rfl hp (by omega) (by omega) h4 (hown.alloc _) (by simp; omega) (Nat.le_refl _) (hbel.alloc hzr _) hs).mono ?_
      rintro e w2 ⟨b', m', rfl, g2⟩
      go_wp2_with fail
      go_roundw
      case rel =>
        have hm : m' = wires (ls.take (k + 1)) := by
          have := g2.own.1
          simp only [List.length_map, Nat.mul_one] at this
          rw [← this, ← HSB.out, allB_length]
        refine ⟨k + 1, by omega, by go_num, ?_, ?_⟩
        · rw [HSB.out, ← hm]; exact g2.own
        · exact (hbel.alloc hzr _).trans (g2.below (hown.alloc _) (by simp; omega))
      case measure => simp [intOf]; omega
    · have hk' : k = ls.length := by omega
      subst hk'
      simp only [List.take_length] at hown
      obtain ⟨pa, kc, rfl, hl9, hpn, hsrc9⟩ := src_of_own hown
      have hcp := row_cap hown
      have k62 := keep3 (hbel1.trans (hbel.mono hbel1.size)) (heap_alloc_old2 w _ _)
      obtain ⟨k62a, k62b, k62c⟩ := k62
      go_wp2_with fail
      refine (avp_calls _ _ _ _ _ _ _).mono ?_
      rintro e w5 ⟨rfl, hbel5⟩
      have r5 := res4 ((hbel1.trans (hbel.mono hbel1.size)).trans (hbel5.mono (by simp; omega))) (heap_alloc_new2 w _ _)
      obtain ⟨⟨z0, z1, z2, z3⟩, y0, y1, y2, y3⟩ := r5
      go_wp2_with fail
      have hW5 : Below w.heap.size w w5 := (hBel.trans (hbel.mono (by omega))).trans (hbel5.mono (by omega))
      refine bodyPost_ret (v := .agg #[.int .u32 c, .int .u8 (flagsOf v m), .int .u32 v, .slice pa (wires ls) kc]) (by simp [results, Ybad.results11, go_sem, z0, z1, z2, z3]) rfl ?_
      refine ⟨pa, kc, ?_, hpn, by simp only [allB_length]; exact hcp, hW5.grown (grown_set4 _ _ _ _ _ _) hW5.size (fun k e => by cases e; omega), ?_⟩
      · simp only [allB_length]
      · refine (hsrc9.later hbel5).grown (grown_set4 _ _ _ _ _ _) (fun ad e => ?_)
        have := (hown.lt ad.block (by rw [e]; rfl)).1
        omega


theorem grouped_gave_cap (g b cap : Nat) (ls : List Avp) (w : World) (hat : AvpsAt w b ls) (hok : ∀ a ∈ ls, AvpOk a) (hll : ls.length ≤ 100000000) (hw : wires ls ≤ 90000000) :
    Calls Ybad.prog 11 #[.agg #[.int .u32 (gc g), .int .u32 (gv g), .bool (gm g)], .slice (some ⟨b, 0, none⟩) ls.length cap] w fun e w' => GaveCap w (mk g (allB ls)) e w' :=
  grouped_cap (gc g) (gv g) (gm g) b cap ls w hat hok hll hw

set_option maxRecDepth 100000 in
set_option maxHeartbeats 4000000 in
theorem install_cap (feat dq da : Int) (sb rb cap : Nat) (rs : List Rule) (w : World) (hG : Globals w) (hs0 : w.cell? ⟨sb, 0, none⟩ = some (.int .u32 dq)) (hs1 : w.cell? ⟨sb, 1, none⟩ = some (.int .u32 da))
    (hR : RulesAt w w.heap.size rb rs) (hok : ∀ r ∈ rs, RuleOk r) (hn : rs.length ≤ 256) (hsum : wires (defsOf feat dq da rs) ≤ 90000000) :
    Calls Ybad.prog 7 #[.agg #[.string ⟨#[]⟩, .pointer (some ⟨sb, 0, none⟩), .int .u32 feat, .int .u64 0, .int .u64 0, .pointer none, .int .u64 0, .int .u64 0, .pointer none, .int .u8 0, .string ⟨#[]⟩, .string ⟨#[]⟩, .string ⟨#[]⟩, .bool false, .pointer none, .pointer none, .slice none 0 0], .slice (some ⟨rb, 0, none⟩) rs.length cap] w fun e w' => GaveCap w (mk 0 (allB (defsOf feat dq da rs))) e w' := by
  have HG : Hid (Globals w) := hG
  have HR : Hid (RulesAt w w.heap.size rb rs) := hR
  have HOK : Hid (∀ r ∈ rs, RuleOk r) := hok
  have HS : Hid (w.cell? ⟨sb, 0, none⟩ = some (.int .u32 dq) ∧ w.cell? ⟨sb, 1, none⟩ = some (.int .u32 da)) := ⟨hs0, hs1⟩
  have hmk := make_avps rs.length (by omega)
  clear hG hR hok hs0 hs1
  have B0 : Below w.heap.size w (((w.alloc (.cells #[.string ⟨#[]⟩, .pointer (some ⟨sb, 0, none⟩), .int .u32 feat, .int .u64 0, .int .u64 0, .pointer none, .int .u64 0, .int .u64 0, .pointer none, .int .u8 0, .string ⟨#[]⟩, .string ⟨#[]⟩, .string ⟨#[]⟩, .bool false, .pointer none, .pointer none, .slice none 0 0] 50)).alloc (.cells #[.int .u32 0, .int .u8 0, .int .u32 0, .slice none 0 0] 29)).alloc (.cells (madeCells #[.int .u32 0, .int .u8 0, .int .u32 0, .slice none 0 0] (rs.length * 4)) 29)) := (((Below.refl _ _).alloc (Nat.le_refl _) _).alloc (by simp) _).alloc (by simp; omega) _
  have HSB : Hid ((((w.alloc (.cells #[.string ⟨#[]⟩, .pointer (some ⟨sb, 0, none⟩), .int .u32 feat, .int .u64 0, .int .u64 0, .pointer none, .int .u64 0, .int .u64 0, .pointer none, .int .u8 0, .string ⟨#[]⟩, .string ⟨#[]⟩, .string ⟨#[]⟩, .bool false, .pointer none, .pointer none, .slice none 0 0] 50)).alloc (.cells #[.int .u32 0, .int .u8 0, .int .u32 0, .slice none 0 0] 29)).alloc (.cells (madeCells #[.int .u32 0, .int .u8 0, .int .u32 0, .slice none 0 0] (rs.length * 4)) 29)).heap[w.heap.size]? = some (.cells #[.string ⟨#[]⟩, .pointer (some ⟨sb, 0, none⟩), .int .u32 feat, .int .u64 0, .int .u64 0, .pointer none, .int .u64 0, .int .u64 0, .pointer none, .int .u8 0, .string ⟨#[]⟩, .string ⟨#[]⟩, .string ⟨#[]⟩, .bool false, .pointer none, .pointer none, .slice none 0 0] 50)) := heap_alloc_a _ _ _ _
  have HRB : Hid ((((w.alloc (.cells #[.string ⟨#[]⟩, .pointer (some ⟨sb, 0, none⟩), .int .u32 feat, .int .u64 0, .int .u64 0, .pointer none, .int .u64 0, .int .u64 0, .pointer none, .int .u8 0, .string ⟨#[]⟩, .string ⟨#[]⟩, .string ⟨#[]⟩, .bool false, .pointer none, .pointer none, .slice none 0 0] 50)).alloc (.cells #[.int .u32 0, .int .u8 0, .int .u32 0, .slice none 0 0] 29)).alloc (.cells (madeCells #[.int .u32 0, .int .u8 0, .int .u32 0, .slice none 0 0] (rs.length * 4)) 29)).heap[w.heap.size + 1]? = some (.cells #[.int .u32 0, .int .u8 0, .int .u32 0, .slice none 0 0] 29)) := heap_alloc_b _ _ _ _
  have F0 : Fill (((w.alloc (.cells #[.string ⟨#[]⟩, .pointer (some ⟨sb, 0, none⟩), .int .u32 feat, .int .u64 0, .int .u64 0, .pointer none, .int .u64 0, .int .u64 0, .pointer none, .int .u8 0, .string ⟨#[]⟩, .string ⟨#[]⟩, .string ⟨#[]⟩, .bool false, .pointer none, .pointer none, .slice none 0 0] 50)).alloc (.cells #[.int .u32 0, .int .u8 0, .int .u32 0, .slice none 0 0] 29)).alloc (.cells (madeCells #[.int .u32 0, .int .u8 0, .int .u32 0, .slice none 0 0] (rs.length * 4)) 29)) (w.heap.size + 1 + 1) rs.length [] := Fill.made _ _ _ _ (by simp) (by simp [size_madeCells])
  have hz0 : (((w.alloc (.cells #[.string ⟨#[]⟩, .pointer (some ⟨sb, 0, none⟩), .int .u32 feat, .int .u64 0, .int .u64 0, .pointer none, .int .u64 0, .int .u64 0, .pointer none, .int .u8 0, .string ⟨#[]⟩, .string ⟨#[]⟩, .string ⟨#[]⟩, .bool false, .pointer none, .pointer none, .slice none 0 0] 50)).alloc (.cells #[.int .u32 0, .int .u8 0, .int .u32 0, .slice none 0 0] 29)).alloc (.cells (madeCells #[.int .u32 0, .int .u8 0, .int .u32 0, .slice none 0 0] (rs.length * 4)) 29)).heap.size = w.heap.size + 1 + 1 + 1 := by simp
  go_enter Ybad.func7, Ybad.ntmps7
  go_wp2_with fail
  clear hmk
  generalize (((w.alloc (.cells #[.string ⟨#[]⟩, .pointer (some ⟨sb, 0, none⟩), .int .u32 feat, .int .u64 0, .int .u64 0, .pointer none, .int .u64 0, .int .u64 0, .pointer none, .int .u8 0, .string ⟨#[]⟩, .string ⟨#[]⟩, .string ⟨#[]⟩, .bool false, .pointer none, .pointer none, .slice none 0 0] 50)).alloc (.cells #[.int .u32 0, .int .u8 0, .int .u32 0, .slice none 0 0] 29)).alloc (.cells (madeCells #[.int .u32 0, .int .u8 0, .int .u32 0, .slice none 0 0] (rs.length * 4)) 29)) = w0 at *
  have hgd1 : w.heap.size < w.heap.size + 1 + 1 := by omega
  have hgd2 : w.heap.size + 1 < w.heap.size + 1 + 1 := by omega
  have hgd3 : w.heap.size + 1 + 1 < w0.heap.size := by omega
  have hwr1 : w.heap.size + 1 < w0.heap.size := by omega
  generalize w.heap.size + 1 + 1 = gd at *
  have HZ0 : Hid (w0.heap.size = gd + 1) := hz0
  clear hz0
  go_loopw [13] (fun i wr => ∃ k : Nat, k ≤ rs.length ∧ i = .int .i64 k ∧ Fill wr gd rs.length (defsOf feat dq da (rs.take k)) ∧ w0.grownBy wr (some gd)) (fun i _ => rs.length - (intOf i).toNat)
  case atStart => exact ⟨0, Nat.zero_le _, rfl, by simpa [defsOf] using F0, ⟨rfl, rfl, rfl, Nat.le_refl _, fun _ _ _ => rfl⟩⟩
  case round =>
    obtain ⟨k, hk, rfl, F1, Gr⟩ := hrel
    have B1 : Below w.heap.size w wr := B0.grown Gr B0.size (fun k e => by cases e; omega)
    have hsb1 : wr.heap[w.heap.size]? = some (.cells #[.string ⟨#[]⟩, .pointer (some ⟨sb, 0, none⟩), .int .u32 feat, .int .u64 0, .int .u64 0, .pointer none, .int .u64 0, .int .u64 0, .pointer none, .int .u8 0, .string ⟨#[]⟩, .string ⟨#[]⟩, .string ⟨#[]⟩, .bool false, .pointer none, .pointer none, .slice none 0 0] 50) := (Gr.block _ (by omega) (by simp; omega)).trans HSB.out
    have HSB1 : Hid (wr.heap[w.heap.size]? = some (.cells #[.string ⟨#[]⟩, .pointer (some ⟨sb, 0, none⟩), .int .u32 feat, .int .u64 0, .int .u64 0, .pointer none, .int .u64 0, .int .u64 0, .pointer none, .int .u8 0, .string ⟨#[]⟩, .string ⟨#[]⟩, .string ⟨#[]⟩, .bool false, .pointer none, .pointer none, .slice none 0 0] 50)) := hsb1
    have hzr : w0.heap.size ≤ wr.heap.size := Gr.size
    clear hsb1
    by_cases hlt : k < rs.length
    · have hget : rs[k]? = some rs[k] := List.getElem?_eq_getElem hlt
      have hrok := HOK.out rs[k] (List.getElem_mem hlt)
      have hra := (HR.out k _ hget).later (B := 0) B1
      have hsn := take_snoc rs k rs[k] hget
      generalize rs[k] = r at *
      have HSN : Hid (rs.take (k + 1) = rs.take k ++ [r]) := hsn
      have HRK : Hid (RuleOk r) := hrok
      clear hsn hget hrok
      obtain ⟨fp, fk, afs, aarp, amu, amd, agu, agd, ared, ⟨c0, c1, c2, c3, c4, c5, c6, c7, c8, c9, c10, c11, c12⟩, q1, q2, q3, q4, q5, q6, q7, q8⟩ := hra
      have HQ : Hid (StrsAt wr wr.heap.size fp r.flows ∧ OptU wr wr.heap.size (.pointer afs) r.fs ∧ OptU wr wr.heap.size (.pointer aarp) r.arp ∧ OptU wr wr.heap.size (.pointer amu) r.mu ∧ OptU wr wr.heap.size (.pointer amd) r.md ∧ OptU wr wr.heap.size (.pointer agu) r.gu ∧ OptU wr wr.heap.size (.pointer agd) r.gd ∧ OptR wr wr.heap.size (.pointer ared) r.red) := ⟨q1, q2, q3, q4, q5, q6, q7, q8⟩
      clear q1 q2 q3 q4 q5 q6 q7 q8
      have E2 : Below wr.heap.size wr (wr.alloc (.cells #[.string r.name, .int .u32 r.prec, .int .u32 r.rg, .slice fp r.flows.length fk, .bool r.media, .pointer afs, .int .u32 r.qci, .pointer aarp, .pointer amu, .pointer amd, .pointer agu, .pointer agd, .pointer ared] 59)) := (Below.refl _ _).alloc (Nat.le_refl _) _
      have HRX : Hid ((wr.alloc (.cells #[.string r.name, .int .u32 r.prec, .int .u32 r.rg, .slice fp r.flows.length fk, .bool r.media, .pointer afs, .int .u32 r.qci, .pointer aarp, .pointer amu, .pointer amd, .pointer agu, .pointer agd, .pointer ared] 59)).heap[wr.heap.size]? = some (.cells #[.string r.name, .int .u32 r.prec, .int .u32 r.rg, .slice fp r.flows.length fk, .bool r.media, .pointer afs, .int .u32 r.qci, .pointer aarp, .pointer amu, .pointer amd, .pointer agu, .pointer agd, .pointer ared] 59)) := heap_alloc_new _ _
      go_wp2_with fail
      clear c0 c1 c2 c3 c4 c5 c6 c7 c8 c9 c10 c11 c12
      generalize hwb : wr.alloc (.cells #[.string r.name, .int .u32 r.prec, .int .u32 r.rg, .slice fp r.flows.length fk, .bool r.media, .pointer afs, .int .u32 r.qci, .pointer aarp, .pointer amu, .pointer amd, .pointer agu, .pointer agd, .pointer ared] 59) = wb at *
      have hzb : wr.heap.size < wb.heap.size := by rw [← hwb]; simp
      clear hwb
      have B2 := B1.trans (E2.mono B1.size)
      have F2 := F1.later E2
      have S2 := cells17 ((E2.block _ (by omega)).trans HSB1.out)
      have X2 := cells13 HRX.out
      obtain ⟨s2x0, s2x1, s2x2, s2x3, s2x4, s2x5, s2x6, s2x7, s2x8, s2x9, s2x10, s2x11, s2x12, s2x13, s2x14, s2x15, s2x16⟩ := S2
      obtain ⟨x2x0, x2x1, x2x2, x2x3, x2x4, x2x5, x2x6, x2x7, x2x8, x2x9, x2x10, x2x11, x2x12⟩ := X2
      have hgw : gd < wr.heap.size := by omega
      have ng1 : ¬ gd = w.heap.size := by omega
      have ng2 : ¬ gd = wr.heap.size := by omega
      go_region_held3 (fun w' => w'.cell? ⟨w.heap.size, 0, none⟩ = some (.string ⟨#[]⟩) ∧ w'.cell? ⟨w.heap.size, 1, none⟩ = some (.pointer (some ⟨sb, 0, none⟩)) ∧ w'.cell? ⟨w.heap.size, 2, none⟩ = some (.int .u32 feat) ∧ w'.cell? ⟨w.heap.size, 3, none⟩ = some (.int .u64 0) ∧ w'.cell? ⟨w.heap.size, 4, none⟩ = some (.int .u64 0) ∧ w'.cell? ⟨w.heap.size, 5, none⟩ = some (.pointer none) ∧ w'.cell? ⟨w.heap.size, 6, none⟩ = some (.int .u64 0) ∧ w'.cell? ⟨w.heap.size, 7, none⟩ = some (.int .u64 0) ∧ w'.cell? ⟨w.heap.size, 8, none⟩ = some (.pointer none) ∧ w'.cell? ⟨w.heap.size, 9, none⟩ = some (.int .u8 0) ∧ w'.cell? ⟨w.heap.size, 10, none⟩ = some (.string ⟨#[]⟩) ∧ w'.cell? ⟨w.heap.size, 11, none⟩ = some (.string ⟨#[]⟩) ∧ w'.cell? ⟨w.heap.size, 12, none⟩ = some (.string ⟨#[]⟩) ∧ w'.cell? ⟨w.heap.size, 13, none⟩ = some (.bool false) ∧ w'.cell? ⟨w.heap.size, 14, none⟩ = some (.pointer none) ∧ w'.cell? ⟨w.heap.size, 15, none⟩ = some (.pointer none) ∧ w'.cell? ⟨w.heap.size, 16, none⟩ = some (.slice none 0 0) ∧ w'.cell? ⟨wr.heap.size, 0, none⟩ = some (.string r.name) ∧ w'.cell? ⟨wr.heap.size, 1, none⟩ = some (.int .u32 r.prec) ∧ w'.cell? ⟨wr.heap.size, 2, none⟩ = some (.int .u32 r.rg) ∧ w'.cell? ⟨wr.heap.size, 3, none⟩ = some (.slice fp r.flows.length fk) ∧ w'.cell? ⟨wr.heap.size, 4, none⟩ = some (.bool r.media) ∧ w'.cell? ⟨wr.heap.size, 5, none⟩ = some (.pointer afs) ∧ w'.cell? ⟨wr.heap.size, 6, none⟩ = some (.int .u32 r.qci) ∧ w'.cell? ⟨wr.heap.size, 7, none⟩ = some (.pointer aarp) ∧ w'.cell? ⟨wr.heap.size, 8, none⟩ = some (.pointer amu) ∧ w'.cell? ⟨wr.heap.size, 9, none⟩ = some (.pointer amd) ∧ w'.cell? ⟨wr.heap.size, 10, none⟩ = some (.pointer agu) ∧ w'.cell? ⟨wr.heap.size, 11, none⟩ = some (.pointer agd) ∧ w'.cell? ⟨wr.heap.size, 12, none⟩ = some (.pointer ared)) (go_keep)
        (first
          | (go_at_call 15; (with_reducible refine (filter_calls r feat dq da sb afs aarp amu amd agu agd ared fp fk _ ?_ ?_ ?_).mono ?_); (exact cell_later B2.drew HS.out.1); (exact cell_later B2.drew HS.out.2); (exact (HQ.out.2.2.1.later E2.drew).mono E2.drew.size); rintro e w3 ⟨am, rfl, hom, hbel3⟩; have D3 : Below wb.heap.size wb w3 := (Below.refl _ _).drew.trans hbel3; have E3 := E2.trans (D3.mono E2.size); have B3 := B1.trans (E3.mono B1.size); have F3 := F1.later E3; obtain ⟨s3x0, s3x1, s3x2, s3x3, s3x4, s3x5, s3x6, s3x7, s3x8, s3x9, s3x10, s3x11, s3x12, s3x13, s3x14, s3x15, s3x16⟩ := cells17 ((E3.block _ (by omega)).trans HSB1.out); obtain ⟨x3x0, x3x1, x3x2, x3x3, x3x4, x3x5, x3x6, x3x7, x3x8, x3x9, x3x10, x3x11, x3x12⟩ := cells13 ((D3.block _ hzb).trans HRX.out))
          | (go_at_call 9; (with_reducible refine (rule_gave r (markOf feat dq da r) am afs aarp amu amd agu agd ared fp fk _ HRK.out ?_ ?_ ?_ ?_ ?_ ?_ ?_ ?_ ?_ ?_).mono ?_); (exact HG.out.later B3); (exact hom); (exact HQ.out.1.later E3 E3.size); (exact (HQ.out.2.1.later E3).mono E3.size); (exact (HQ.out.2.2.1.later E3).mono E3.size); (exact (HQ.out.2.2.2.1.later E3).mono E3.size); (exact (HQ.out.2.2.2.2.1.later E3).mono E3.size); (exact (HQ.out.2.2.2.2.2.1.later E3).mono E3.size); (exact (HQ.out.2.2.2.2.2.2.1.later E3).mono E3.size); (exact HQ.out.2.2.2.2.2.2.2.later E3 E3.size); rintro e w4 ⟨p4, k4, rfl, hp4, hbel4, hs4⟩; have D4 := D3.trans (hbel4.mono D3.size); have E4 := E2.trans (D4.mono E2.size); have F4 := F1.later E4; obtain ⟨s4x0, s4x1, s4x2, s4x3, s4x4, s4x5, s4x6, s4x7, s4x8, s4x9, s4x10, s4x11, s4x12, s4x13, s4x14, s4x15, s4x16⟩ := cells17 ((E4.block _ (by omega)).trans HSB1.out); obtain ⟨x4x0, x4x1, x4x2, x4x3, x4x4, x4x5, x4x6, x4x7, x4x8, x4x9, x4x10, x4x11, x4x12⟩ := cells13 ((D4.block _ hzb).trans HRX.out); obtain ⟨z0, z1, z2, z3, hz0, hz1, hz2, hz3, hy0, hy1, hy2, hy3⟩ := F4.cells hlt))
      go_wp2_with fail
      go_roundw
      case rel =>
        have hlk : (defsOf feat dq da (rs.take k)).length = k := by simp [defsOf]; omega
        have F5 := F4.step (x := ruleA r (markOf feat dq da r)) (p := p4) (k := k4) (by omega) hp4 hs4
        have hd : defsOf feat dq da (rs.take (k + 1)) = defsOf feat dq da (rs.take k) ++ [ruleA r (markOf feat dq da r)] := by rw [HSN.out]; simp [defsOf]
        refine ⟨k + 1, by omega, by go_num, ?_, ?_⟩
        · rw [hd]
          rw [hlk] at F5
          exact F5
        · have g1 : w0.grownBy w4 (some gd) := ⟨E4.os.trans Gr.os, E4.tape.trans Gr.tape, E4.output.trans Gr.output, Nat.le_trans Gr.size E4.size, fun i hi hne => (E4.block i (by omega)).trans (Gr.block i hi hne)⟩
          exact grown_trans g1 (grown_set4at w4 gd (k * 4) _ _ _ _)
      case measure => simp [intOf]; omega
    · have hk' : k = rs.length := by omega
      subst hk'
      rw [List.take_length] at F1
      have G1 := HG.out.later B1
      obtain ⟨u0, u1, u2⟩ := G1 0 (by decide) (by decide)
      clear G1
      obtain ⟨cur, fb, fs, fat⟩ := F1
      have hdl : (defsOf feat dq da rs).length = rs.length := by simp [defsOf]
      go_wp2_with fail
      rw [← hdl]
      refine (grouped_gave_cap 0 gd _ (defsOf feat dq da rs) wr fat (defs_ok feat dq da rs HOK.out) (by omega) hsum).mono ?_
      rintro e w9 ⟨p9, k9, rfl, hp9, hk9, hbel9, hs9⟩
      have hrb1 : wr.heap[w.heap.size + 1]? = some (.cells #[.int .u32 0, .int .u8 0, .int .u32 0, .slice none 0 0] 29) := (Gr.block _ hwr1 (by simp; omega)).trans HRB.out
      have B9 := B1.trans (hbel9.mono B1.size)
      have r9 := res4 hbel9 hrb1
      obtain ⟨⟨z0, z1, z2, z3⟩, y0, y1, y2, y3⟩ := r9
      have hrb9 := (hbel9.block _ (heap_lt hrb1)).trans hrb1
      have HRB9 : Hid (w9.heap[w.heap.size + 1]? = some (.cells #[.int .u32 0, .int .u8 0, .int .u32 0, .slice none 0 0] 29)) := hrb9
      clear hrb9 hrb1
      go_wp2_with fail
      refine bodyPost_ret (v := .agg #[.int .u32 (mk 0 (allB (defsOf feat dq da rs))).c, .int .u8 (mk 0 (allB (defsOf feat dq da rs))).f, .int .u32 (mk 0 (allB (defsOf feat dq da rs))).v, .slice p9 (mk 0 (allB (defsOf feat dq da rs))).d.length k9]) (by simp [results, Ybad.results7, go_sem, z0, z1, z2, z3]) rfl ?_
      exact (gave_end B9 (by omega) HRB9.out hp9 hs9 _ _ _ _).cap hk9

end Go.Proofs.YbulkaroiDoor
