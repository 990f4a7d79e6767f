import Derived.Test.YbulkaroiDoorAgree
import Derived.Test.YbulkaroiDoorGrp
import Derived.Test.YbulkaroiDoorSplit
set_option linter.unusedVariables false
namespace Go.Proofs.YbulkaroiDoor
open Go.RowKit Go.Deep

theorem src_bytes {w : World} {p : Option Addr} {d : List Int} (h : SrcOk w p d) (h0 : 0 < w.heap.size) : ∃ g o, g < w.heap.size ∧ Bytes w g o d ∧ (0 < d.length → p = some ⟨g, o, none⟩ ∧ ∃ cs fr, w.heap[g]? = some (.cells cs 5 fr)) := by
  by_cases hd : 0 < d.length
  · cases hp : p with
    | none => have := h.1 hp; rw [this] at hd; simp at hd
    | some ad =>
      obtain ⟨⟨cs, fr, hc⟩, hb⟩ := h.2 ad hp
      have hd0 : d[0]? = some d[0] := List.getElem?_eq_getElem hd
      have c0 := hb 0 (u8 d[0]) (by rw [List.getElem?_map, hd0]; rfl)
      rw [Addr.add_zero'] at c0
      have hsp : ad = ⟨ad.block, ad.off, none⟩ := by
        obtain ⟨b, o, sp⟩ := ad
        cases sp with
        | none => rfl
        | some q => simp only [World.cell?] at c0; split at c0 <;> simp at c0
      refine ⟨ad.block, ad.off, heap_lt hc, fun j y hj => ?_, fun _ => ⟨by rw [← hsp], cs, fr, hc⟩⟩
      have := hb j (u8 y) (by rw [List.getElem?_map, hj]; rfl)
      rw [hsp, Addr.add_lit] at this
      exact this
  · have hd2 : d = [] := List.length_eq_zero_iff.1 (by omega)
    subst hd2
    exact ⟨0, 0, h0, fun j y hj => by simp at hj, fun h => by simp at h⟩

theorem defs_len (feat dq da : Int) (rs : List Rule) : (defsOf feat dq da rs).length = rs.length := by simp [defsOf]
theorem defs_flag (feat dq da : Int) (rs : List Rule) : ∀ a ∈ defsOf feat dq da rs, a.f = 192 := by
  intro a ha
  simp only [defsOf, List.mem_map] at ha
  obtain ⟨r, -, rfl⟩ := ha
  rfl

theorem wires_drop_le (ls : List Avp) (k : Nat) : wires (ls.drop k) ≤ wires ls := by
  induction ls generalizing k with
  | nil => simp
  | cons a r ih =>
    cases k with
    | zero => simp
    | succ k => have := ih k; simp only [List.drop_succ_cons, wires]; omega

theorem rowSlice4 {w : World} {B : Nat} {t : TypeId} {v : Value} {n : Nat} {xs : List Value} (h : w.ownsRow B t 4 v n xs) :
    ∃ a cap, v = .slice a n cap ∧ ∀ (j : Nat) (u : Value), xs[j]? = some u → ∃ G, a = some ⟨G, 0, none⟩ ∧ w.cell? ⟨G, j, none⟩ = some u := by
  rcases h.2 with ⟨rfl, h0⟩ | ⟨g, cap, cur, rfl, hb, hg, hnc, hcm, hcs, htake⟩
  · have hx : xs = [] := List.length_eq_zero_iff.1 (by rw [h.1, h0])
    subst hx
    subst h0
    exact ⟨none, 0, rfl, fun j s hj => by simp at hj⟩
  · refine ⟨some ⟨g, 0, none⟩, cap, rfl, fun j s hj => ⟨g, rfl, ?_⟩⟩
    rw [← htake, List.getElem?_take] at hj
    split at hj
    · simp [World.cell?, hg]
      simpa using hj
    · cases hj

theorem fro4 {w : World} {g : Nat} {cs : Array Value} {t : TypeId} (hb : w.heap[g]? = some (.cells cs t (0, 0))) : w.frozen? ⟨g, 0, none⟩ = false ∧ w.frozen? ⟨g, 1, none⟩ = false ∧ w.frozen? ⟨g, 2, none⟩ = false ∧ w.frozen? ⟨g, 3, none⟩ = false := by
  simp [World.frozen?, hb]

/-- An AVP in a box of its own, its data where its slice leads. -/
def Boxed (A : Avp) (w : World) (v : Value) (w' : World) : Prop :=
  ∃ b p k, v = .pointer (some ⟨b, 0, none⟩) ∧ w'.heap[b]? = some (.cells #[.int .u32 A.c, .int .u8 A.f, .int .u32 A.v, .slice p A.d.length k] 29 (0, 0)) ∧ Below w.heap.size w w' ∧ SrcOk w' p A.d

theorem boxed_new {A : Avp} {w w' : World} {p : Option Addr} {k : Nat} (D : Below w.heap.size w w') (hs : SrcOk w' p A.d) : Boxed A w (.pointer (some ⟨w'.heap.size, 0, none⟩)) (w'.alloc (.cells #[.int .u32 A.c, .int .u8 A.f, .int .u32 A.v, .slice p A.d.length k] 29)) :=
  ⟨w'.heap.size, p, k, rfl, heap_alloc_new w' _, D.alloc D.size _, hs.later ((Below.refl _ _).alloc (Nat.le_refl _) _)⟩

theorem boxed_set {A : Avp} {w w' : World} {p : Option Addr} {k b : Nat} (D : Below w.heap.size w w') (hb : w'.heap[b]? = some (.cells #[.int .u32 0, .int .u8 0, .int .u32 0, .slice none 0 0] 29 (0, 0))) (hw : w.heap.size ≤ b) (hs : SrcOk w' p A.d) :
    Boxed A w (.pointer (some ⟨b, 0, none⟩)) ((((w'.setCell ⟨b, 0, none⟩ (.int .u32 A.c)).setCell ⟨b, 1, none⟩ (.int .u8 A.f)).setCell ⟨b, 2, none⟩ (.int .u32 A.v)).setCell ⟨b, 3, none⟩ (.slice p A.d.length k)) := by
  have gr : w'.grownBy ((((w'.setCell ⟨b, 0, none⟩ (.int .u32 A.c)).setCell ⟨b, 1, none⟩ (.int .u8 A.f)).setCell ⟨b, 2, none⟩ (.int .u32 A.v)).setCell ⟨b, 3, none⟩ (.slice p A.d.length k)) (some b) :=
    grown_trans (grown_trans (grown_trans (grown_set _ _ _ _) (grown_set _ _ _ _)) (grown_set _ _ _ _)) (grown_set _ _ _ _)
  refine ⟨b, p, k, rfl, ?_, D.grown gr D.size (fun j e => by cases e; exact hw), hs.tag gr hb (by decide)⟩
  have e := heap_setCell_same _ b 3 _ 29 (.slice p A.d.length k) (heap_setCell_same _ b 2 _ 29 (.int .u32 A.v) (heap_setCell_same _ b 1 _ 29 (.int .u8 A.f) (heap_setCell_same _ b 0 _ 29 (.int .u32 A.c) hb)))
  exact e

theorem rule_gave' {feat dq da : Int} {A : Avp} {r0 : Rule} (hA : ruleA r0 (markOf feat dq da r0) = A) (r : Rule) (afi afs aarp amu amd agu agd ared : Option Addr) (fp : Option Addr) (fk : Nat) (w : World) (hr : RuleOk r) (hG : Globals w)
    (hfi : OptU w w.heap.size (.pointer afi) (markOf feat dq da r)) (hfl : StrsAt w w.heap.size fp r.flows) (hfs : OptU w w.heap.size (.pointer afs) r.fs) (harp : OptU w w.heap.size (.pointer aarp) r.arp) (hmu : OptU w w.heap.size (.pointer amu) r.mu) (hmd : OptU w w.heap.size (.pointer amd) r.md) (hgu : OptU w w.heap.size (.pointer agu) r.gu) (hgd : OptU w w.heap.size (.pointer agd) r.gd) (hred : OptR w w.heap.size (.pointer ared) r.red) (e0 : r0 = r) :
    Calls Ybad.prog 9 #[.agg #[.string r.name, .int .u32 r.prec, .int .u32 r.rg, .slice fp r.flows.length fk, .bool r.media, .pointer afs, .int .u32 r.qci, .pointer aarp, .pointer amu, .pointer amd, .pointer agu, .pointer agd, .pointer ared], .pointer afi] w fun e w' => GaveAvp w A e w' := by
  subst e0
  rw [← hA]
  exact rule_gave r0 _ afi afs aarp amu amd agu agd ared fp fk w hr hG hfi hfl hfs harp hmu hmd hgu hgd hred

set_option maxRecDepth 100000 in
set_option maxHeartbeats 4000000 in
theorem splits_calls (feat dq da : Int) (sp : Option Addr) (cap : Nat) (ss : List Src) (w : World) (hG : Globals w) (hat : SrcsAt w sp ss) (hf : ∀ s ∈ ss, SrcFine s) :
    Calls Ybad.prog 4 #[.int .u32 feat, .int .u32 dq, .int .u32 da, .slice sp ss.length cap] w fun e w' => e = .returned (.bool true) ∧ Below w.heap.size w w' := by
  have HG : Hid (Globals w) := hG
  have HAT : Hid (SrcsAt w sp ss) := hat
  have HF : Hid (∀ s ∈ ss, SrcFine s) := hf
  clear hG hat hf
  go_enter Ybad.func4, Ybad.ntmps4
  by_cases hbig : 256 < ss.length
  · have hbig' : (256 : Int) < ss.length := by omega
    go_wp2_with fail
    go_ret
    exact ⟨rfl, Below.refl _ _⟩
  · go_wp2_with fail
    refine (size_calls sp cap ss w HAT.out (fun s hs => (HF.out s hs).2.2) (by omega)).mono ?_
    rintro e w1 ⟨n, rfl, hn, q, rfl⟩
    by_cases hn6 : 65536 < n
    · have hn6' : (65536 : Int) < n := by omega
      go_wp2_with fail
      go_ret
      exact ⟨rfl, below_drewN _ _⟩
    · have hss := hn (by omega)
      have HSS : Hid (ssizes ss ≤ 65536) := hss
      clear hn hss
      go_wp2_with fail
      refine (build_built sp cap ss _ HAT.out.drewN (fun s hs => (HF.out s hs).2.1) (flows_few ss HSS.out) (by omega)).mono ?_
      have HOK : Hid (∀ r ∈ ss.map toRule, RuleOk r) := rules_ok ss HF.out HSS.out
      have hnr : (ss.map toRule).length ≤ 256 := by simp; omega
      have hsum : wires (defsOf feat dq da (ss.map toRule)) ≤ 90000000 := by have h1 := defs_wires feat dq da ss; have h2 := HSS.out; omega
      generalize ss.map toRule = rs at *
      rintro e w2 ⟨rb, rfl, hb2, hrb2, hR2⟩
      have B2 : Below w.heap.size w w2 := (below_drewN _ _).trans hb2
      have HR2 : Hid (RulesAt w2 w2.heap.size rb rs) := hR2
      have HS : Hid (wires (defsOf feat dq da rs) ≤ 90000000) := hsum
      clear hb2 hR2 hsum hbig hn6 HSS HF HAT
      go_wp2_with fail
      refine (sess_calls feat dq da w2).mono ?_
      rintro e w3 ⟨rfl, hb3, s0, s1⟩
      have B3 := B2.trans (hb3.mono B2.size)
      have hz3 := hb3.size
      have HR3 : Hid (RulesAt w3 w3.heap.size rb rs) := HR2.out.later hb3
      have HG3 : Hid (Globals w3) := HG.out.later B3
      have HC3 : Hid (w3.cell? ⟨w2.heap.size + 1, 0, none⟩ = some (.int .u32 dq) ∧ w3.cell? ⟨w2.heap.size + 1, 1, none⟩ = some (.int .u32 da)) := ⟨s0, s1⟩
      clear hb3 HR2 s0 s1
      go_wp2_with fail
      have hin := install_cap feat dq da (w2.heap.size + 1) rb rs.length rs w3 HG3.out HC3.out.1 HC3.out.2 HR3.out HOK.out hnr HS.out
      have hxc0 : (mk 0 (allB (defsOf feat dq da rs))).c = 1001 := rfl
      have hxd0 : (mk 0 (allB (defsOf feat dq da rs))).d = allB (defsOf feat dq da rs) := rfl
      generalize mk 0 (allB (defsOf feat dq da rs)) = x at hin hxc0 hxd0
      refine hin.mono ?_
      clear hin
      have HXD : Hid (x.d = allB (defsOf feat dq da rs)) := hxd0
      clear hxd0
      rintro e w4 ⟨p4, k4, rfl, hp4, hk4, hb4, hs4⟩
      have B4 := B3.trans (hb4.mono B3.size)
      have hz4 := hb4.size
      have HR4 : Hid (RulesAt w4 w4.heap.size rb rs) := HR3.out.later hb4
      have HG4 : Hid (Globals w4) := HG.out.later B4
      have h04 : 0 < w4.heap.size := World.block_lt_of_cell? _ _ (HG4.out 0 (by decide) (by decide)).1
      obtain ⟨g, o, hgw, hby, hgo⟩ := src_bytes hs4 h04
      have HGO : Hid (Bytes w4 g o (allB (defsOf feat dq da rs)) ∧ (0 < x.d.length → p4 = some ⟨g, o, none⟩ ∧ ∃ cs fr, w4.heap[g]? = some (.cells cs 5 fr))) := ⟨by rw [← HXD.out]; exact hby, hgo⟩
      have HB4 : Hid (Below w.heap.size w w4) := B4
      have HK4 : Hid (x.d.length ≤ k4) := hk4
      have hrb4 : rb < w4.heap.size := by omega
      have hw4 : w.heap.size ≤ w4.heap.size := B4.size
      clear hb4 hs4 HR3 HG3 HC3 B4 B3 B2 hz3 hz4 hrb2 hby hgo hk4
      have BX : Below w4.heap.size w4 (w4.alloc (.cells #[.int .u32 1001, .int .u8 x.f, .int .u32 x.v, .slice p4 x.d.length k4] 29)) := (Below.refl _ _).alloc (Nat.le_refl _) _
      have HBX : Hid ((w4.alloc (.cells #[.int .u32 1001, .int .u8 x.f, .int .u32 x.v, .slice p4 x.d.length k4] 29)).heap[w4.heap.size]? = some (.cells #[.int .u32 1001, .int .u8 x.f, .int .u32 x.v, .slice p4 x.d.length k4] 29 (0, 0))) := heap_alloc_new w4 _
      go_wp2_with fail
      generalize w4.alloc (.cells #[.int .u32 1001, .int .u8 x.f, .int .u32 x.v, .slice p4 x.d.length k4] 29) = w5 at *
      have hz5 := BX.size
      have hgc := avpGrouped_calls 1001 x.f x.v g o k4 p4 (defsOf feat dq da rs) w5 (by omega) (HGO.out.1.keep BX hgw) (fun h => (HGO.out.2 (by rw [HXD.out, allB_length]; exact h)).1) (by rw [← allB_length, ← HXD.out]; exact HK4.out) (defs_ok feat dq da rs HOK.out) (defs_flag feat dq da rs) (by rw [defs_len]; omega) HS.out
      have hgl : wires (defsOf feat dq da rs) = x.d.length := by rw [HXD.out, allB_length]
      rw [hgl] at hgc
      refine hgc.mono ?_
      clear hgc
      rintro e w6 ⟨v6, rfl, ho6, hb6⟩
      rw [defs_len] at ho6
      have B6 : Below w4.heap.size w4 w6 := BX.trans (hb6.mono hz5)
      obtain ⟨a6, k6, e6, hc6⟩ := rowSlice4 ho6
      subst e6
      have HC6 : Hid (∀ (j : Nat) (u : Value), (cellsOf (rsAt g o (defsOf feat dq da rs)))[j]? = some u → ∃ G, a6 = some ⟨G, 0, none⟩ ∧ w6.cell? ⟨G, j, none⟩ = some u) := hc6
      have HOK6 : Hid (∀ r ∈ rsAt g o (defsOf feat dq da rs), 0 < x.d.length → r.ok w6) := fun r hr hx => rsAt_ok (HGO.out.1.keep B6 hgw) (by obtain ⟨-, cs, fr, hh⟩ := HGO.out.2 hx; exact ⟨cs, fr, (B6.block _ hgw).trans hh⟩) (defs_flag feat dq da rs) r hr
      have HB6 : Hid (Below w4.heap.size w4 w6) := B6
      have hz6 : w4.heap.size ≤ w6.heap.size := B6.size
      clear ho6 hc6 hb6 BX HBX B6
      go_wp2_with fail
      go_loopw [13] (fun i wr => ∃ k : Nat, k ≤ rs.length ∧ i = .int .i64 k ∧ Below w6.heap.size w6 wr) (fun i _ => rs.length - (intOf i).toNat)
      case atStart => exact ⟨0, Nat.zero_le _, rfl, Below.refl _ _⟩
      case round =>
        obtain ⟨k, hk, rfl, Br⟩ := hrel
        have B1 : Below w4.heap.size w4 wr := HB6.out.trans (Br.mono HB6.out.size)
        have hzr : w6.heap.size ≤ wr.heap.size := Br.size
        by_cases hlt : k < rs.length
        · have hget : rs[k]? = some rs[k] := List.getElem?_eq_getElem hlt
          have hrok := HOK.out rs[k] (List.getElem_mem hlt)
          have hra := (HR4.out k _ hget).later (B := 0) B1
          have hdg : (defsOf feat dq da rs)[k]? = some (ruleA rs[k] (markOf feat dq da rs[k])) := by simp [defsOf, hget]
          generalize rs[k] = r at *
          have HRK : Hid (RuleOk r) := hrok
          clear hget hrok
          obtain ⟨pd, hpd⟩ := rsAt_get g o (defsOf feat dq da rs) k _ hdg
          have hxl : 0 < x.d.length := by
            rw [HXD.out, allB_length]
            have h1 := (wires_split _ k _ hdg).1
            have h2 : 0 < wire (ruleA r (markOf feat dq da r)) := by unfold wire hlen; split <;> omega
            have h3 := wires_drop_le (defsOf feat dq da rs) k
            omega
          have HSD : Hid (SrcOk wr (some pd) (ruleA r (markOf feat dq da r)).d) := ((HOK6.out _ (List.mem_of_getElem? hpd) hxl).later Br).2
          have hcc := fun t ht => cellsOf_get (rsAt g o (defsOf feat dq da rs)) k t _ hpd ht
          obtain ⟨G, ha6, s0⟩ := HC6.out (k * 4 + 0) _ (hcc 0 (by decide))
          subst ha6
          obtain ⟨G3, hG3, s3⟩ := HC6.out (k * 4 + 3) _ (hcc 3 (by decide))
          have hGG : G = G3 := by simpa using hG3
          subst hGG
          have s0r : wr.cell? ⟨G, k * 4, none⟩ = some (.int .u32 1003) := cell_later Br s0
          have s3r : wr.cell? ⟨G, k * 4 + 3, none⟩ = some (.slice (some pd) (ruleA r (markOf feat dq da r)).d.length (ruleA r (markOf feat dq da r)).d.length) := cell_later Br s3
          clear s0 s3 hcc hG3 hpd hdg
          obtain ⟨fp, fk, afs, aarp, amu, amd, agu, agd, ared, hcs, q1, q2, q3, q4, q5, q6, q7, q8⟩ := hra
          have HQ : Hid (StrsAt wr wr.heap.size fp r.flows ∧ OptU wr wr.heap.size (.pointer afs) r.fs ∧ OptU wr wr.heap.size (.pointer aarp) r.arp ∧ OptU wr wr.heap.size (.pointer amu) r.mu ∧ OptU wr wr.heap.size (.pointer amd) r.md ∧ OptU wr wr.heap.size (.pointer agu) r.gu ∧ OptU wr wr.heap.size (.pointer agd) r.gd ∧ OptR wr wr.heap.size (.pointer ared) r.red) := ⟨q1, q2, q3, q4, q5, q6, q7, q8⟩
          have HC : Hid (wr.cell? ⟨rb, k * 13, none⟩ = some (.string r.name) ∧ wr.cell? ⟨rb, k * 13 + 1, none⟩ = some (.int .u32 r.prec) ∧ wr.cell? ⟨rb, k * 13 + 2, none⟩ = some (.int .u32 r.rg) ∧ wr.cell? ⟨rb, k * 13 + 3, none⟩ = some (.slice fp r.flows.length fk) ∧ wr.cell? ⟨rb, k * 13 + 4, none⟩ = some (.bool r.media) ∧ wr.cell? ⟨rb, k * 13 + 5, none⟩ = some (.pointer afs) ∧ wr.cell? ⟨rb, k * 13 + 6, none⟩ = some (.int .u32 r.qci) ∧ wr.cell? ⟨rb, k * 13 + 7, none⟩ = some (.pointer aarp) ∧ wr.cell? ⟨rb, k * 13 + 8, none⟩ = some (.pointer amu) ∧ wr.cell? ⟨rb, k * 13 + 9, none⟩ = some (.pointer amd) ∧ wr.cell? ⟨rb, k * 13 + 10, none⟩ = some (.pointer agu) ∧ wr.cell? ⟨rb, k * 13 + 11, none⟩ = some (.pointer agd) ∧ wr.cell? ⟨rb, k * 13 + 12, none⟩ = some (.pointer ared)) := hcs
          obtain ⟨c0, c1, c2, c3, c4, c5, c6, c7, c8, c9, c10, c11, c12⟩ := hcs
          clear q1 q2 q3 q4 q5 q6 q7 q8
          have HGw : Hid (Globals wr) := HG4.out.later B1
          generalize hAA : ruleA r (markOf feat dq da r) = A at *
          have HAA : Hid (ruleA r (markOf feat dq da r) = A) := hAA
          clear hAA
          have hrbw : rb < wr.heap.size := by omega
          have BBa : Below wr.heap.size wr (wr.alloc (.cells #[.int .u32 0, .int .u8 0, .int .u32 0, .slice none 0 0] 29)) := (Below.refl _ _).alloc (Nat.le_refl _) _
          have ngr : ¬ wr.heap.size = rb := by omega
          go_wp2_with fail
          go_cut [14] (fun v14 wc => Boxed A wr v14 wc)
          case first =>
            go_region_held3 (fun w' => w'.cell? ⟨rb, k * 13, none⟩ = some (.string r.name) ∧ w'.cell? ⟨rb, k * 13 + 1, none⟩ = some (.int .u32 r.prec) ∧ w'.cell? ⟨rb, k * 13 + 2, none⟩ = some (.int .u32 r.rg) ∧ w'.cell? ⟨rb, k * 13 + 3, none⟩ = some (.slice fp r.flows.length fk) ∧ w'.cell? ⟨rb, k * 13 + 4, none⟩ = some (.bool r.media) ∧ w'.cell? ⟨rb, k * 13 + 5, none⟩ = some (.pointer afs) ∧ w'.cell? ⟨rb, k * 13 + 6, none⟩ = some (.int .u32 r.qci) ∧ w'.cell? ⟨rb, k * 13 + 7, none⟩ = some (.pointer aarp) ∧ w'.cell? ⟨rb, k * 13 + 8, none⟩ = some (.pointer amu) ∧ w'.cell? ⟨rb, k * 13 + 9, none⟩ = some (.pointer amd) ∧ w'.cell? ⟨rb, k * 13 + 10, none⟩ = some (.pointer agu) ∧ w'.cell? ⟨rb, k * 13 + 11, none⟩ = some (.pointer agd) ∧ w'.cell? ⟨rb, k * 13 + 12, none⟩ = some (.pointer ared)) (go_keep)
              (first
                | (go_at_call 10; (with_reducible refine (mark_calls r feat dq da 0 afs aarp amu amd agu agd ared fp fk _ ?_).mono ?_); (first | exact HQ.out.2.2.1 | exact (HQ.out.2.2.1.later BBa).mono BBa.size); rintro e w6 ⟨am, rfl, hom, hbel6⟩; have D6 : Below wr.heap.size wr w6 := (by first | exact (Below.refl _ _).drew.trans hbel6 | exact BBa.drew.trans (hbel6.mono BBa.size)); have D6a : Below wr.heap.size wr (w6.alloc (.cells #[.int .u32 0, .int .u8 0, .int .u32 0, .slice none 0 0] 29)) := D6.alloc D6.size _; have A6a : Below w6.heap.size w6 (w6.alloc (.cells #[.int .u32 0, .int .u8 0, .int .u32 0, .slice none 0 0] 29)) := (Below.refl _ _).alloc (Nat.le_refl _) _; have hz6 := D6.size; have ng6 : ¬ w6.heap.size = rb := (by omega); obtain ⟨d0, d1, d2, d3, d4, d5, d6, d7, d8, d9, d10, d11, d12⟩ := cells13_later D6 HC.out; (first | (have hbx6 : w6.heap[wr.heap.size]? = some (.cells #[.int .u32 0, .int .u8 0, .int .u32 0, .slice none 0 0] 29 (0, 0)) := (hbel6.block _ (by simp)).trans (heap_alloc_new wr _)) | skip))
                | (go_at_call 9; (with_reducible refine (rule_gave' HAA.out r am afs aarp amu amd agu agd ared fp fk _ HRK.out ?_ ?_ ?_ ?_ ?_ ?_ ?_ ?_ ?_ ?_ rfl).mono ?_); (first | exact HGw.out.later D6 | exact HGw.out.later D6a); (first | exact hom | exact (hom.later A6a).mono A6a.size); (first | exact HQ.out.1.later D6 D6.size | exact HQ.out.1.later D6a D6a.size); (first | exact (HQ.out.2.1.later D6).mono D6.size | exact (HQ.out.2.1.later D6a).mono D6a.size); (first | exact (HQ.out.2.2.1.later D6).mono D6.size | exact (HQ.out.2.2.1.later D6a).mono D6a.size); (first | exact (HQ.out.2.2.2.1.later D6).mono D6.size | exact (HQ.out.2.2.2.1.later D6a).mono D6a.size); (first | exact (HQ.out.2.2.2.2.1.later D6).mono D6.size | exact (HQ.out.2.2.2.2.1.later D6a).mono D6a.size); (first | exact (HQ.out.2.2.2.2.2.1.later D6).mono D6.size | exact (HQ.out.2.2.2.2.2.1.later D6a).mono D6a.size); (first | exact (HQ.out.2.2.2.2.2.2.1.later D6).mono D6.size | exact (HQ.out.2.2.2.2.2.2.1.later D6a).mono D6a.size); (first | exact HQ.out.2.2.2.2.2.2.2.later D6 D6.size | exact HQ.out.2.2.2.2.2.2.2.later D6a D6a.size); rintro e w7 ⟨p7, k7, rfl, hp7, hbel7, hs7⟩; have D7 : Below wr.heap.size wr w7 := (by first | exact D6.trans (hbel7.mono D6.size) | exact D6a.trans (hbel7.mono D6a.size)); have hz7 := D7.size; have ng7 : ¬ w7.heap.size = rb := (by omega); obtain ⟨e0, e1, e2, e3, e4, e5, e6, e7, e8, e9, e10, e11, e12⟩ := cells13_later D7 HC.out; (first | (have hbx7 : w7.heap[w6.heap.size]? = some (.cells #[.int .u32 0, .int .u8 0, .int .u32 0, .slice none 0 0] 29 (0, 0)) := (hbel7.block _ (by simp)).trans (heap_alloc_new w6 _); obtain ⟨xz0, xz1, xz2, xz3⟩ := cells4 hbx7; obtain ⟨xy0, xy1, xy2, xy3⟩ := fro4 hbx7) | (have hbx7 : w7.heap[wr.heap.size]? = some (.cells #[.int .u32 0, .int .u8 0, .int .u32 0, .slice none 0 0] 29 (0, 0)) := (hbel7.block _ (heap_lt hbx6)).trans hbx6; obtain ⟨xz0, xz1, xz2, xz3⟩ := cells4 hbx7; obtain ⟨xy0, xy1, xy2, xy3⟩ := fro4 hbx7) | skip)))
            all_goals go_wp2_with fail
            all_goals go_meet
            all_goals (first | exact boxed_new D7 hs7 | exact boxed_set D7 hbx7 (by omega) hs7)
          case rest =>
            obtain ⟨b8, p8, k8, hv8, hbx8, D8, hs8⟩ := hcut
            subst hv8
            rename World => w8
            have HS8 : Hid (SrcOk w8 p8 A.d ∧ SrcOk w8 (some pd) A.d) := ⟨hs8, HSD.out.later D8⟩
            have s38 : w8.cell? ⟨G, k * 4 + 3, none⟩ = some (.slice (some pd) A.d.length A.d.length) := cell_later D8 s3r
            have x38 : w8.cell? ⟨b8, 3, none⟩ = some (.slice p8 A.d.length k8) := by simp [World.cell?, hbx8]
            have HD8 : Hid (Below wr.heap.size wr w8) := D8
            clear s0r s3r c0 c1 c2 c3 c4 c5 c6 c7 c8 c9 c10 c11 c12 hbx8 hs8 D8
            go_wp2_with fail
            go_region_held3 (fun w' => w'.cell? ⟨G, k * 4 + 3, none⟩ = some (.slice (some pd) A.d.length A.d.length) ∧ w'.cell? ⟨b8, 3, none⟩ = some (.slice p8 A.d.length k8)) (go_keep)
              (first | (go_at_call 14; (with_reducible refine (bytesEqual_calls (some pd) p8 _ _ A.d _ ?_ ?_).mono ?_); (exact HS8.out.2); (exact HS8.out.1); rintro e w9 ⟨rfl, rfl⟩))
            go_wp2_with fail
            go_roundw
            case rel => exact ⟨k + 1, by omega, by go_num, (Br.trans (HD8.out.mono Br.size)).drew⟩
            case measure => simp [intOf]; omega
        · have hk' : k = rs.length := by omega
          subst hk'
          go_wp2_with fail
          go_ret
          exact ⟨rfl, HB4.out.trans ((HB6.out.trans (Br.mono HB6.out.size)).mono HB4.out.size)⟩

end Go.Proofs.YbulkaroiDoor
