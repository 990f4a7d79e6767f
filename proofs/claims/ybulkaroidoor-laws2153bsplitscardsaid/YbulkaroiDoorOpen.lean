import Derived.Test.YbulkaroiDoorFacts
import Derived.Test.YbulkaroiDoorCards
import Derived.Test.YbulkaroiDoorTie
import Derived.ProofKit
import Derived.OpenShut
import Derived.OpenVars
import Derived.LaidMore
import Derived.Deep.Slices
import Derived.Deep.Strs
import Derived.Below
import Derived.Carry
import Derived.Stop.Joined
import Derived.SevenTiedAt
set_option linter.unusedVariables false
namespace Go.Proofs.YbulkaroiDoor
open Go.ChangeShapes Go.WideShapes Go.ChangeAt Go.RowKit Go.Deep

theorem Ybad.own : ownKnob Ybad.prog.godebug = none := by kernel_rfl
theorem Ybad.laidOut : laidOutB Ybad.prog = true := by kernel_rfl
theorem Ybad.cells22 : Ybad.prog.cellsOf 22 = 1 := by kernel_rfl
theorem Ybad.cells72 : Ybad.prog.cellsOf 72 = 17 := by kernel_rfl
theorem Ybad.cells9 : Ybad.prog.cellsOf 9 = 1 := by kernel_rfl
theorem Ybad.cells48 : Ybad.prog.cellsOf 48 = 1 := by kernel_rfl
theorem Ybad.cells4 : Ybad.prog.cellsOf 4 = 1 := by kernel_rfl

theorem u32_fine {n : Int} (h : (Lit.int .u32 n).wf = true) : 0 ≤ n ∧ n < 4294967296 := by
  simp [Lit.wf, IntKind.min, IntKind.max, IntKind.signed, IntKind.bits] at h; omega

theorem weightsAll_mem {H : Type} {P : Program} {e : TypeId} : ∀ {l : List (DataW H)} {d : DataW H}, d ∈ l → ∀ n ∈ d.weights P e, n ∈ DataW.weightsAll P e l := by
  intro l
  induction l with
  | nil => intro d hd; simp at hd
  | cons a r ih =>
    intro d hd n hn
    rw [DataW.weightsAll]
    rcases List.mem_cons.1 hd with rfl | hd
    · exact List.mem_append_left _ hn
    · exact List.mem_append_right _ (ih hd n hn)

theorem cell_plain {w : World} {a : Addr} {v : Value} (h : w.cell? a = some v) : a = ⟨a.block, a.off, none⟩ ∧ a.block < w.heap.size := by
  obtain ⟨b, o, sp⟩ := a
  cases sp with
  | none => exact ⟨rfl, by
      simp only [World.cell?] at h
      split at h
      · rename_i h2; exact heap_lt h2
      · cases h⟩
  | some q => simp only [World.cell?] at h; split at h <;> simp at h

/-- A row of strings that came in. -/
theorem open_flows {H : Type} {enc : TypeId × Value → H} {W : World} {spare : Nat → Bool} {held : Bool} {fuel : Nat} {c : Value} {x : DataW H × List MemPlace} (h : DataW.trod enc Ybad.prog W 0 spare held fuel 48 [c] = some x) (hw : ∀ n ∈ x.1.weights Ybad.prog 48, n ≤ reachBytes) :
    ∃ (fs : List ByteArray) (fp : Option Addr) (fk : Nat), c = .slice fp fs.length fk ∧ (fp = none → fk = 0) ∧ StrsAt W W.heap.size fp fs ∧ ∀ f ∈ fs, f.size ≤ 140737488355328 := by
  rcases open_strs Ybad.underlying48 Ybad.underlying9 Ybad.cells9 h with ⟨e, -⟩ | ⟨a, len, cap, m, S, e, hb, hl, hm, hmm, hx, hs⟩
  · obtain rfl := (List.cons.inj e).1
    exact ⟨[], none, 0, rfl, fun _ => rfl, ⟨fun _ => rfl, fun ad e => by cases e⟩, by simp⟩
  · obtain rfl := (List.cons.inj e).1
    have hlm : len ≤ m := by rw [hmm]; split <;> omega
    refine ⟨(List.range len).map S, some a, cap, by simp, fun e => (by cases e), ⟨fun e => (by cases e), fun ad e hne => ?_⟩, fun f hf => ?_⟩
    · cases e
      have h0 : 0 < len := by
        rcases Nat.eq_zero_or_pos len with h0 | h0
        · subst h0; simp at hne
        · exact h0
      have hc0 := (hs 0 (by omega)).1
      rw [Addr.add_zero'] at hc0
      obtain ⟨e1, e2⟩ := cell_plain hc0
      refine ⟨a.block, a.off, e1, e2, fun j s hj => ?_⟩
      simp only [List.getElem?_map, Option.map_eq_some_iff] at hj
      obtain ⟨i, hi, rfl⟩ := hj
      obtain ⟨hi1, hi2⟩ := List.getElem?_eq_some_iff.1 hi
      simp at hi1 hi2
      subst hi2
      have := (hs j (by omega)).1
      rw [e1, Addr.add_lit] at this
      exact this
    · simp only [List.mem_map, List.mem_range] at hf
      obtain ⟨i, hi, rfl⟩ := hf
      have h1 : (S i).size ∈ x.1.weights Ybad.prog 48 := by
        rw [hx]
        simp only [DataW.weights, Ybad.underlying48]
        refine List.mem_cons_of_mem _ (List.mem_append_left _ (weightsAll_mem (d := .lit (.string (S i).data.toList)) (List.mem_map.2 ⟨i, by simpa using hi, rfl⟩) _ ?_))
        simp [DataW.weights]
      have h2 := hw _ h1
      unfold reachBytes at h2
      omega

set_option maxRecDepth 10000 in
/-- A rule that came in, opened. -/
theorem open_src {H : Type} {enc : TypeId × Value → H} {W : World} {spare : Nat → Bool} {held : Bool} {fuel : Nat} {cs : List Value} {x : DataW H × List MemPlace} (h : DataW.trod enc Ybad.prog W 0 spare held fuel 72 cs = some x) (hw : ∀ n ∈ x.1.weights Ybad.prog 72, n ≤ reachBytes) :
    ∃ (s : Src) (fp : Option Addr) (fk : Nat), cs = [.string s.name, .int .u32 s.prec, .int .u32 s.rg, .slice fp s.flows.length fk, .bool s.media, .bool s.hfs, .int .u32 s.fs, .int .u32 s.qci, .bool s.harp, .int .u32 s.arp, .bool s.hmu, .int .u32 s.mu, .bool s.hgd, .int .u32 s.gd, .bool s.hred, .string s.uri, .bool s.su] ∧ SrcFine s ∧ (fp = none → fk = 0) ∧ StrsAt W W.heap.size fp s.flows := by
  obtain ⟨xs, n, -, rfl, hl, hlen, hf⟩ := DataW.trod_struct Ybad.underlying72 h
  rw [Ybad.cells72] at hl
  have hagg : ∀ (j : Nat) (t : TypeId) (d : DataW H), ([9, 22, 22, 48, 4, 4, 22, 22, 4, 22, 4, 22, 4, 22, 4, 9, 4] : List TypeId)[j]? = some t → (xs.map (·.1))[j]? = some d → ∀ n ∈ d.weights Ybad.prog t, n ≤ reachBytes := by
    intro j t d h1 h2 n hn
    refine hw n ?_
    simp only [DataW.weights, Ybad.underlying72]
    exact DataW.weights_mem_each h1 h2 n hn
  clear h hw
  obtain ⟨c0, c1, c2, c3, c4, c5, c6, c7, c8, c9, c10, c11, c12, c13, c14, c15, c16, rfl⟩ : ∃ c0 c1 c2 c3 c4 c5 c6 c7 c8 c9 c10 c11 c12 c13 c14 c15 c16, cs = [c0, c1, c2, c3, c4, c5, c6, c7, c8, c9, c10, c11, c12, c13, c14, c15, c16] := by
    match cs, hl with
    | [c0, c1, c2, c3, c4, c5, c6, c7, c8, c9, c10, c11, c12, c13, c14, c15, c16], _ => exact ⟨_, _, _, _, _, _, _, _, _, _, _, _, _, _, _, _, _, rfl⟩
  obtain ⟨y0, y1, y2, y3, y4, y5, y6, y7, y8, y9, y10, y11, y12, y13, y14, y15, y16, rfl⟩ : ∃ y0 y1 y2 y3 y4 y5 y6 y7 y8 y9 y10 y11 y12 y13 y14 y15 y16, xs = [y0, y1, y2, y3, y4, y5, y6, y7, y8, y9, y10, y11, y12, y13, y14, y15, y16] := by
    match xs, hlen with
    | [y0, y1, y2, y3, y4, y5, y6, y7, y8, y9, y10, y11, y12, y13, y14, y15, y16], _ => exact ⟨_, _, _, _, _, _, _, _, _, _, _, _, _, _, _, _, _, rfl⟩
  have t0 : DataW.trod enc Ybad.prog W 0 spare held n 9 [c0] = some y0 := by simpa [Ybad.cells9] using hf 0 _ rfl
  obtain ⟨a0, e0, x0, m0⟩ := DataW.trod_string Ybad.underlying9 t0
  obtain rfl := (List.cons.inj e0).1
  have t1 : DataW.trod enc Ybad.prog W 0 spare held n 22 [c1] = some y1 := by simpa [Ybad.cells22] using hf 1 _ rfl
  obtain ⟨a1, e1, x1, m1⟩ := DataW.trod_int Ybad.underlying22 t1
  obtain rfl := (List.cons.inj e1).1
  have t2 : DataW.trod enc Ybad.prog W 0 spare held n 22 [c2] = some y2 := by simpa [Ybad.cells22] using hf 2 _ rfl
  obtain ⟨a2, e2, x2, m2⟩ := DataW.trod_int Ybad.underlying22 t2
  obtain rfl := (List.cons.inj e2).1
  have t3 : DataW.trod enc Ybad.prog W 0 spare held n 48 [c3] = some y3 := by simpa [Ybad.cells48] using hf 3 _ rfl
  have t4 : DataW.trod enc Ybad.prog W 0 spare held n 4 [c4] = some y4 := by simpa [Ybad.cells4] using hf 4 _ rfl
  obtain ⟨a4, e4, x4⟩ := DataW.trod_bool Ybad.underlying4 t4
  obtain rfl := (List.cons.inj e4).1
  have t5 : DataW.trod enc Ybad.prog W 0 spare held n 4 [c5] = some y5 := by simpa [Ybad.cells4] using hf 5 _ rfl
  obtain ⟨a5, e5, x5⟩ := DataW.trod_bool Ybad.underlying4 t5
  obtain rfl := (List.cons.inj e5).1
  have t6 : DataW.trod enc Ybad.prog W 0 spare held n 22 [c6] = some y6 := by simpa [Ybad.cells22] using hf 6 _ rfl
  obtain ⟨a6, e6, x6, m6⟩ := DataW.trod_int Ybad.underlying22 t6
  obtain rfl := (List.cons.inj e6).1
  have t7 : DataW.trod enc Ybad.prog W 0 spare held n 22 [c7] = some y7 := by simpa [Ybad.cells22] using hf 7 _ rfl
  obtain ⟨a7, e7, x7, m7⟩ := DataW.trod_int Ybad.underlying22 t7
  obtain rfl := (List.cons.inj e7).1
  have t8 : DataW.trod enc Ybad.prog W 0 spare held n 4 [c8] = some y8 := by simpa [Ybad.cells4] using hf 8 _ rfl
  obtain ⟨a8, e8, x8⟩ := DataW.trod_bool Ybad.underlying4 t8
  obtain rfl := (List.cons.inj e8).1
  have t9 : DataW.trod enc Ybad.prog W 0 spare held n 22 [c9] = some y9 := by simpa [Ybad.cells22] using hf 9 _ rfl
  obtain ⟨a9, e9, x9, m9⟩ := DataW.trod_int Ybad.underlying22 t9
  obtain rfl := (List.cons.inj e9).1
  have t10 : DataW.trod enc Ybad.prog W 0 spare held n 4 [c10] = some y10 := by simpa [Ybad.cells4] using hf 10 _ rfl
  obtain ⟨a10, e10, x10⟩ := DataW.trod_bool Ybad.underlying4 t10
  obtain rfl := (List.cons.inj e10).1
  have t11 : DataW.trod enc Ybad.prog W 0 spare held n 22 [c11] = some y11 := by simpa [Ybad.cells22] using hf 11 _ rfl
  obtain ⟨a11, e11, x11, m11⟩ := DataW.trod_int Ybad.underlying22 t11
  obtain rfl := (List.cons.inj e11).1
  have t12 : DataW.trod enc Ybad.prog W 0 spare held n 4 [c12] = some y12 := by simpa [Ybad.cells4] using hf 12 _ rfl
  obtain ⟨a12, e12, x12⟩ := DataW.trod_bool Ybad.underlying4 t12
  obtain rfl := (List.cons.inj e12).1
  have t13 : DataW.trod enc Ybad.prog W 0 spare held n 22 [c13] = some y13 := by simpa [Ybad.cells22] using hf 13 _ rfl
  obtain ⟨a13, e13, x13, m13⟩ := DataW.trod_int Ybad.underlying22 t13
  obtain rfl := (List.cons.inj e13).1
  have t14 : DataW.trod enc Ybad.prog W 0 spare held n 4 [c14] = some y14 := by simpa [Ybad.cells4] using hf 14 _ rfl
  obtain ⟨a14, e14, x14⟩ := DataW.trod_bool Ybad.underlying4 t14
  obtain rfl := (List.cons.inj e14).1
  have t15 : DataW.trod enc Ybad.prog W 0 spare held n 9 [c15] = some y15 := by simpa [Ybad.cells9] using hf 15 _ rfl
  obtain ⟨a15, e15, x15, m15⟩ := DataW.trod_string Ybad.underlying9 t15
  obtain rfl := (List.cons.inj e15).1
  have t16 : DataW.trod enc Ybad.prog W 0 spare held n 4 [c16] = some y16 := by simpa [Ybad.cells4] using hf 16 _ rfl
  obtain ⟨a16, e16, x16⟩ := DataW.trod_bool Ybad.underlying4 t16
  obtain rfl := (List.cons.inj e16).1
  obtain ⟨fs, fp, fk, rfl, hfk, hst, hsm⟩ := open_flows t3 (hagg 3 48 _ rfl rfl)
  have s0 : a0.size ≤ 140737488355328 := by
    have h1 := hagg 0 9 _ rfl rfl a0.size (by rw [x0]; simp [DataW.weights])
    unfold reachBytes at h1
    omega
  have s15 : a15.size ≤ 140737488355328 := by
    have h1 := hagg 15 9 _ rfl rfl a15.size (by rw [x15]; simp [DataW.weights])
    unfold reachBytes at h1
    omega
  exact ⟨⟨a0, a1, a2, fs, a4, a5, a6, a7, a8, a9, a10, a11, a12, a13, a14, a15, a16⟩, fp, fk, rfl, ⟨⟨u32_fine m1, u32_fine m2, u32_fine m7⟩, ⟨u32_fine m6, u32_fine m9, u32_fine m11, u32_fine m13⟩, s0, s15, hsm⟩, hfk, hst⟩

/-- The rules that came in, opened. -/
theorem open_srcs {H : Type} {enc : TypeId × Value → H} {W : World} {held : Bool} {v : Value} {d : DataW H} {ps : List MemPlace} (h : DataW.Trod enc Ybad.prog W 0 (fun _ => true) held 23 v d ps) (hw : ∀ n ∈ d.weights Ybad.prog 23, n ≤ reachBytes) :
    ∃ (sp : Option Addr) (cap : Nat) (ss : List Src), v.cells.toList = [.slice sp ss.length cap] ∧ SrcsAt W sp ss ∧ ∀ s ∈ ss, SrcFine s := by
  obtain ⟨fuel, hf⟩ := h
  rcases open_slice Ybad.underlying23 hf with ⟨e, -⟩ | ⟨a, len, cap, m, n, D, Pl, e, hb, hl, hm, hmm, hx, hs⟩
  · exact ⟨none, 0, [], e, fun i s hi => by simp at hi, by simp⟩
  · simp only [Prod.mk.injEq] at hx
    rw [Ybad.cells72] at hs
    have hlm : len ≤ m := by rw [hmm]; split <;> omega
    have each : ∀ i, i < len → ∃ s : Src, SrcFine s ∧ a = ⟨a.block, a.off, none⟩ ∧ SrcAt W a.block (a.off + i * 17) s := by
      intro i hi
      have hpl : a = ⟨a.block, a.off, none⟩ := by
        obtain ⟨cs, hcs, -⟩ := hs 0 (by omega)
        obtain ⟨-, hl2, hc⟩ := World.cells?_some hcs
        have h0 := hc 0 (by omega)
        rw [Nat.zero_mul, Addr.add_zero', Addr.add_zero', List.getElem?_eq_getElem (by omega)] at h0
        exact (cell_plain h0).1
      obtain ⟨cs, hcs, htr⟩ := hs i (by omega)
      have hmem : ∀ n ∈ (D i).weights Ybad.prog 72, n ≤ reachBytes := by
        intro n hn
        refine hw n ?_
        rw [hx.1]
        simp only [DataW.weights, Ybad.underlying23]
        exact List.mem_cons_of_mem _ (List.mem_append_left _ (weightsAll_mem (List.mem_map.2 ⟨i, by simpa using hi, rfl⟩) n hn))
      obtain ⟨s, fp, fk, rfl, hfine, hfk, hst⟩ := open_src htr hmem
      obtain ⟨-, -, hc⟩ := World.cells?_some hcs
      refine ⟨s, hfine, hpl, fp, fk, ?_, hfk, hst⟩
      rw [hpl, Addr.add_lit] at hc
      simp only [Addr.add_lit] at hc
      exact ⟨hc 0 (by omega), hc 1 (by omega), hc 2 (by omega), hc 3 (by omega), hc 4 (by omega), hc 5 (by omega), hc 6 (by omega), hc 7 (by omega), hc 8 (by omega), hc 9 (by omega), hc 10 (by omega), hc 11 (by omega), hc 12 (by omega), hc 13 (by omega), hc 14 (by omega), hc 15 (by omega), hc 16 (by omega)⟩
    obtain ⟨S, hS⟩ := @choose_lt Src ⟨⟨⟨#[]⟩, 0, 0, [], false, false, 0, 0, false, 0, false, 0, false, 0, false, ⟨#[]⟩, false⟩⟩ len _ each
    refine ⟨some a, cap, (List.range len).map S, by simpa using e, fun i s hi => ?_, fun s hs => ?_⟩
    · simp only [List.getElem?_map, Option.map_eq_some_iff] at hi
      obtain ⟨j, hj, rfl⟩ := hi
      obtain ⟨hj1, hj2⟩ := List.getElem?_eq_some_iff.1 hj
      simp at hj1 hj2
      subst hj2
      obtain ⟨-, h2, h3⟩ := hS i hj1
      exact ⟨a.block, a.off, by rw [← h2], h3⟩
    · simp only [List.mem_map, List.mem_range] at hs
      obtain ⟨i, hi, rfl⟩ := hs
      exact (hS i hi).1

end Go.Proofs.YbulkaroiDoor
