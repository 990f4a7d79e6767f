import Derived.Test.YbulkarscFifo
import Derived.ProofKit
import Derived.OpenShut
import Derived.Deep.Slices
import Derived.Carry
set_option linter.unusedVariables false
namespace Go.Proofs.Ybulkarsc
open Go.ChangeShapes Go.WideShapes Go.ChangeAt Go.RowKit Go.Deep

theorem Yba.own : ownKnob Yba.prog.godebug = none := by kernel_rfl
theorem Yba.laidOut : laidOutB Yba.prog = true := by kernel_rfl
theorem Yba.cells81 : Yba.prog.cellsOf 81 = 2 := by kernel_rfl
theorem Yba.cells79 : Yba.prog.cellsOf 79 = 1 := by kernel_rfl
theorem Yba.cells5 : Yba.prog.cellsOf 5 = 1 := by kernel_rfl

theorem u8_fine {n : Int} (h : (Lit.int .u8 n).wf = true) : 0 ≤ n ∧ n ≤ 255 := by
  simp [Lit.wf, IntKind.min, IntKind.max, IntKind.signed, IntKind.bits] at h; omega

theorem u16_fine {n : Int} (h : (Lit.int .u16 n).wf = true) : 0 ≤ n ∧ n ≤ 65535 := by
  simp [Lit.wf, IntKind.min, IntKind.max, IntKind.signed, IntKind.bits] at h; omega

theorem cell_plain {w : World} {a : Addr} {v : Value} (h : w.cell? a = some v) : a = ⟨a.block, a.off, none⟩ ∧ a.block < w.heap.size := by
  obtain ⟨b, o, sp⟩ := a
  cases sp with
  | none => exact ⟨rfl, by
      simp only [World.cell?] at h
      split at h
      · rename_i h2; exact heap_lt h2
      · cases h⟩
  | some q => simp only [World.cell?] at h; split at h <;> simp at h

theorem two_of {α : Type} {l : List α} (h : l.length = 2) : ∃ a b, l = [a, b] := by
  match l, h with
  | [a, b], _ => exact ⟨a, b, rfl⟩

/-- The steps that came in, opened. -/
theorem open_ops {H : Type} {enc : TypeId × Value → H} {W : World} {held : Bool} {v : Value} {d : DataW H} {ps : List MemPlace} (h : DataW.Trod enc Yba.prog W 0 (fun _ => true) held 77 v d ps) :
    ∃ (sp : Option Addr) (cap : Nat) (ops : List (Int × Int)), v.cells.toList = [.slice sp ops.length cap] ∧ OpsAt W sp ops := by
  obtain ⟨fuel, hf⟩ := h
  rcases open_slice Yba.underlying77 hf with ⟨e, -⟩ | ⟨a, len, cap, m, n, D, Pl, e, hb, hl, hm, hmm, hx, hs⟩
  · exact ⟨none, 0, [], e, fun i o x hi => by simp at hi⟩
  · rw [Yba.cells81] at hs
    have hlm : len ≤ m := by rw [hmm]; split <;> omega
    have each : ∀ i, i < len → ∃ ox : Int × Int, (0 ≤ ox.1 ∧ ox.1 ≤ 255) ∧ (0 ≤ ox.2 ∧ ox.2 ≤ 65535) ∧ a = ⟨a.block, a.off, none⟩ ∧ a.block < W.heap.size ∧ W.cell? ⟨a.block, a.off + i * 2, none⟩ = some (.int .u8 ox.1) ∧ W.cell? ⟨a.block, a.off + i * 2 + 1, none⟩ = some (.int .u16 ox.2) := by
      intro i hi
      have hpl : a = ⟨a.block, a.off, none⟩ ∧ a.block < W.heap.size := by
        obtain ⟨cs, hcs, -⟩ := hs 0 (by omega)
        obtain ⟨-, hl2, hc⟩ := World.cells?_some hcs
        have h0 := hc 0 (by omega)
        rw [Nat.zero_mul, Addr.add_zero', Addr.add_zero', List.getElem?_eq_getElem (by omega)] at h0
        exact cell_plain h0
      obtain ⟨cs, hcs, htr⟩ := hs i (by omega)
      obtain ⟨xs, n', -, -, hcl, hlen, hf'⟩ := DataW.trod_struct Yba.underlying81 htr
      rw [Yba.cells81] at hcl
      obtain ⟨c0, c1, rfl⟩ := two_of hcl
      obtain ⟨y0, y1, rfl⟩ := two_of (show xs.length = 2 from hlen)
      have t0 : DataW.trod enc Yba.prog W 0 (fun _ => true) held n' 5 [c0] = some y0 := by simpa [Yba.cells5] using hf' 0 _ rfl
      have t1 : DataW.trod enc Yba.prog W 0 (fun _ => true) held n' 79 [c1] = some y1 := by simpa [Yba.cells5, Yba.cells79] using hf' 1 _ rfl
      obtain ⟨a0, e0, -, m0⟩ := DataW.trod_int Yba.underlying5 t0
      obtain ⟨a1, e1, -, m1⟩ := DataW.trod_int Yba.underlying79 t1
      obtain rfl := (List.cons.inj e0).1
      obtain rfl := (List.cons.inj e1).1
      obtain ⟨-, -, hc⟩ := World.cells?_some hcs
      rw [hpl.1, Addr.add_lit] at hc
      simp only [Addr.add_lit] at hc
      exact ⟨(a0, a1), u8_fine m0, u16_fine m1, hpl.1, hpl.2, hc 0 (by omega), hc 1 (by omega)⟩
    obtain ⟨S, hS⟩ := choose_lt each
    refine ⟨some a, cap, (List.range len).map S, by simpa using e, fun i o x hi => ?_⟩
    simp only [List.getElem?_map, Option.map_eq_some_iff] at hi
    obtain ⟨j, hj, hS2⟩ := hi
    obtain ⟨hj1, hj2⟩ := List.getElem?_eq_some_iff.1 hj
    simp at hj1 hj2
    subst hj2
    have := hS i hj1
    rw [hS2] at this
    obtain ⟨q1, q2, q3, q4, q5, q6⟩ := this
    exact ⟨q1, q2, a.block, a.off, by rw [← q3], q4, q5, q6⟩

set_option maxRecDepth 100000 in
theorem fifo_lifted (os : Os) (started : os.Started) (H : Type) (enc : TypeId × Value → H) :
    ReturnsInHanded {} Yba.checked os 7 .any (Rows.lawS2160CFifoSpec.pre6 enc Yba.prog Yba.f7 Rows.lawS2160CFifoRow.domain false) (Rows.lawS2160CFifoSpec.post enc Yba.prog Yba.f7 false true false false) := by
  refine returnsInHanded_of_change (C := Yba.checked) Yba.own started (by kernel_rfl) Yba.func7
    (ChangeSpec.witness6 (enc := enc) (C := Yba.checked) false ⟨#[], #[.slice none 0 0], []⟩ 8 (by kernel_rfl) (by kernel_rfl) (by kernel_rfl) (by kernel_rfl)) ?_
  intro W base args ds gs before hval0 hW hcnd _
  have hval : ∀ (j : Nat) t v, Yba.f7.params[j]? = some t → args[j]? = some v → Value.okWide Yba.prog W .any base t v := hval0
  have hW' := hW
  obtain ⟨p, q, hA0, hV, rfl, hfz, hnd⟩ := hW
  have hA : DataW.TrodAll enc Yba.prog W 0 (fun _ => true) true Yba.f7.params.toList args.toList ds p := hA0
  rw [Yba.params7] at hA hval
  obtain ⟨v0, d0, rfl, rfl, h0⟩ := trodAll_one hA
  obtain ⟨rfl, rfl⟩ := trodVars_none hV
  obtain ⟨sl, len, cap0, rfl⟩ := okWide_slice Yba.underlying77 (hval 0 77 v0 rfl rfl)
  have lt0 : ∀ x ∈ p, x.block < W.heap.size := by obtain ⟨m, hm⟩ := h0; exact DataW.trod_lt m _ _ _ hm
  obtain ⟨sp, cap, ops, hv0, hat⟩ := open_ops h0
  have hv0' : [Value.slice sl len cap0] = [.slice sp ops.length cap] := hv0
  simp only [List.cons.injEq, Value.slice.injEq, and_true] at hv0'
  obtain ⟨rfl, rfl, rfl⟩ := hv0'
  clear hA0 hval0
  refine (fifo_walk sl cap0 ops W hat).mono fun e W' ⟨he, bel⟩ => ?_
  subst he
  exact ⟨_, rfl, _, _, _, [], _, [], hW', trodAll_mk1 (shut_bool Yba.underlying4 _), (trodAll_cons_mk (Below.trod Yba.laidOut (by kernel_rfl) (of_decide_eq_true (by kernel_rfl)) h0 bel lt0) trodAll_mk0), rfl, bel.frame _, fun h => by cases h⟩

theorem fifo_holds : Rows.LawS2160CFifoSaid :=
  OpenClaim.holds_of_wide 7 Yba.f7 rfl rfl rfl rfl rfl rfl rfl ⟨rfl, rfl, rfl, rfl, rfl⟩ rfl rfl rfl rfl rfl (by kernel_rfl) Yba.func7 (by kernel_rfl)
    (of_decide_eq_true (by kernel_rfl)) (by unfold Func.isWrapper; first | (rw [if_pos (by decide +kernel)]; kernel_rfl) | (rw [if_neg (by decide +kernel)]; exact ⟨rfl, rfl⟩))
    (fun os started H enc _ => fifo_lifted os started H enc)

end Go.Proofs.Ybulkarsc
