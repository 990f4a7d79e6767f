/-
  'Rows.LawS2149BSpecToldSaid': the told card of bearersift.LawS2149BSpec.
-/
import Derived.Test.YbulkarmeFmtSpec
import Derived.Test.YbulkarmeFmtCards
import Derived.ProofKit
import Derived.OpenShut
import Derived.ChangeOld
import Derived.Below
import Derived.Stop.JoinedTold
import Derived.SevenToldRow
set_option linter.unusedVariables false
namespace Go.Proofs.YbulkarmeFmt
open Go.ChangeShapes Go.WideShapes Go.ChangeAt Go.RowKit
open Go.Extern.Stop Go.Stop Go.Extern

theorem Ybaf.own : ownKnob Ybaf.prog.godebug = none := by kernel_rfl
theorem Ybaf.laidOut : laidOutB Ybaf.prog = true := by kernel_rfl
theorem Ybaf.cells5 : Ybaf.prog.cellsOf 5 = 1 := by kernel_rfl

/-- What the walk is told of a slice of bytes that came in. -/
def IsRow (w : World) (a : Option Addr) (len cap : Nat) (zs : List Int) : Prop :=
  (a = none ∧ len = 0 ∧ cap = 0 ∧ zs = []) ∨
  ∃ x, a = some x ∧ len ≤ cap ∧ cap ≤ maxLen ∧ zs.length = cap ∧ (∀ i, i < zs.length → w.cell? (x.add i) = some (.int .u8 (zs.getD i 0))) ∧ ∀ n ∈ zs, (Lit.int .u8 n).wf = true

/-- The elements of such a slice: its first 'len' numbers; as the walks want them. -/
theorem IsRow.src {w : World} {a : Option Addr} {len cap : Nat} {zs : List Int} (h : IsRow w a len cap zs) :
    ∃ xs : List Int, xs.length = len ∧ (∀ x ∈ xs, 0 ≤ x ∧ x ≤ 255) ∧
      (0 < xs.length → ∃ ad, a = some ad ∧ ad.block < w.heap.size ∧ ∀ j v, (xs.map (Value.int .u8))[j]? = some v → w.cell? (ad.add j) = some v) := by
  rcases h with ⟨rfl, rfl, rfl, rfl⟩ | ⟨x, rfl, hl, hm, hz, hcell, hwz⟩
  · exact ⟨[], rfl, by simp, by simp⟩
  · refine ⟨zs.take len, by simp; omega, fun y hy => ?_, fun hpos => ⟨x, rfl, ?_, fun j v hj => ?_⟩⟩
    · have := hwz y (List.mem_of_mem_take hy)
      simp [Lit.wf, IntKind.min, IntKind.max, IntKind.signed, IntKind.bits] at this
      omega
    · simp at hpos
      have hc := hcell 0 (by omega)
      simp [Addr.add] at hc
      exact block_lt_of_cell hc
    · simp only [List.getElem?_map, Option.map_eq_some_iff, List.getElem?_take] at hj
      obtain ⟨y, hy, rfl⟩ := hj
      split at hy
      · have hlt : j < zs.length := by
          rcases Nat.lt_or_ge j zs.length with h | h
          · exact h
          · rw [List.getElem?_eq_none h] at hy; cases hy
        have := hcell j hlt
        rw [this]
        simp [hy]
      · cases hy

theorem spec_all (F : Interp) (sp : Option Addr) (cap : Nat) (xs : List Int) (off first : Int) (w : World) (hF : F.answers w.tape)
    (hx : ∀ x ∈ xs, 0 ≤ x ∧ x ≤ 255) (h0 : 0 ≤ off) (h1 : off ≤ 65535)
    (hsrc : 0 < xs.length → ∃ ad, sp = some ad ∧ ad.block < w.heap.size ∧ ∀ j v, (xs.map (Value.int .u8))[j]? = some v → w.cell? (ad.add j) = some v) :
    Calls Ybaf.prog 3 #[.slice sp xs.length cap, .int .u16 off, .int .i64 first] w fun e w' => e = .returned (.bool true) ∧ Below w.heap.size w w' := by
  by_cases hl : xs.length ≤ 1024
  · by_cases hr : (xs.length : Int) - off % (xs.length + 1) < 2
    · exact spec_short F sp cap xs off first w hF hx h0 h1 hl hsrc hr
    · have ho0 : 0 ≤ off % ((xs.length : Int) + 1) := Int.emod_nonneg _ (by omega)
      obtain ⟨k, hk⟩ := Int.eq_ofNat_of_zero_le ho0
      rw [hk] at hr
      have hk2 : k + 2 ≤ xs.length := by omega
      have hn : xs[k + 1]? = some xs[k + 1] := List.getElem?_eq_getElem (by omega)
      have hid : xs[k]? = some xs[k] := List.getElem?_eq_getElem (by omega)
      by_cases hlt : (xs.length : Int) - (k + 2) < xs[k + 1]
      · exact spec_cut F sp cap k xs off first _ w hF hx h0 h1 hl hsrc hk hk2 hn hlt
      · have hn0 := (hx _ (List.mem_of_getElem? hn)).1
        obtain ⟨m, hm⟩ := Int.eq_ofNat_of_zero_le hn0
        rw [hm] at hn hlt
        exact spec_ok sp cap k m xs off first _ w hx h0 h1 hl hsrc hk hk2 hn hid (by omega)
  · refine (spec_long sp xs.length cap off first w (by omega)).mono ?_
    rintro e w' ⟨rfl, rfl⟩
    exact ⟨rfl, Below.refl _ _⟩

set_option maxRecDepth 100000 in
theorem spec_lifted (os : Os) (started : os.Started) (H : Type) (enc : TypeId × Value → H) :
    ReturnsInTold none {} Ybaf.checked os 3 .any Input.okWide ((OpenSpec.ofChange Rows.lawS2149BSpecSpec).preRow enc Ybaf.prog Ybaf.f3 Rows.lawS2149BSpecRow.domain false [])
      (fun F => ((OpenSpec.ofChange Rows.lawS2149BSpecSpec).at F).post enc Ybaf.prog Ybaf.f3 false true false false) (aloneAtReturn Ybaf.prog) nothingAlways := by
  refine returnsInTold_of_row (C := Ybaf.checked) (s := OpenSpec.ofChange Rows.lawS2149BSpecSpec) (by kernel_rfl) Ybaf.own started (by kernel_rfl) Ybaf.func3
    (OpenSpec.witness_stopped (enc := enc) (C := Ybaf.checked) false ⟨#[], #[.slice none 0 0, .int .u16 0, .int .i64 0], []⟩ 8 (by kernel_rfl) (by kernel_rfl) (by kernel_rfl) (by kernel_rfl)) ?_
  intro F W base args ds gs before _ hF hval0 hW _ _ hsz _ _
  have hval : ∀ (j : Nat) t v, Ybaf.f3.params[j]? = some t → args[j]? = some v → Value.okWide Ybaf.prog W .any base t v := hval0
  have hW' := hW
  obtain ⟨p, q, hA0, hV, rfl, hfz, hnd⟩ := hW
  have hA : DataW.TrodAll enc Ybaf.prog W 0 (fun _ => true) true Ybaf.f3.params.toList args.toList ds p := hA0
  rw [Ybaf.params3] at hA hval
  obtain ⟨v0, v1, v2, d0, d1, d2, p0, p1, p2, rfl, rfl, rfl, h0, h1, h2⟩ := trodAll_three hA
  obtain ⟨rfl, rfl⟩ := trodVars_none hV
  obtain ⟨a0, len0, cap0, rfl⟩ := okWide_slice Ybaf.underlying22 (hval 0 22 v0 rfl rfl)
  have k0 := h0
  have lt0 : ∀ x ∈ p0, x.block < W.heap.size := by obtain ⟨m, hm⟩ := k0; exact DataW.trod_lt m _ _ _ hm
  obtain ⟨z0, w0⟩ : ∃ zs, IsRow W a0 len0 cap0 zs := by
    obtain ⟨fuel, hf⟩ := h0
    rcases open_ints Ybaf.underlying22 Ybaf.underlying5 Ybaf.cells5 hf with ⟨hcs, _⟩ | ⟨x, l, c, zs, hcs, _, hl, hm, hz, _, hcell, hwz⟩
    · simp [Value.cells] at hcs
      obtain ⟨rfl, rfl, rfl⟩ := hcs
      exact ⟨[], .inl ⟨rfl, rfl, rfl, rfl⟩⟩
    · simp [Value.cells] at hcs
      obtain ⟨rfl, rfl, rfl⟩ := hcs
      exact ⟨zs, .inr ⟨_, rfl, hl, hm, by simpa using hz, hcell, hwz⟩⟩
  obtain ⟨a1, rfl, rfl, rfl, w1⟩ := open_int Ybaf.underlying23 (hval 1 23 v1 rfl rfl) h1
  obtain ⟨a2, rfl, rfl, rfl, w2⟩ := open_int Ybaf.underlying3 (hval 2 3 v2 rfl rfl) h2
  clear hA0 hval0
  obtain ⟨xs, rfl, hx, hsrc⟩ := w0.src
  have hb1 : 0 ≤ a1 ∧ a1 ≤ 65535 := by
    have := w1
    simp [Lit.wf, IntKind.min, IntKind.max, IntKind.signed, IntKind.bits] at this
    omega
  refine (spec_all F.told a0 cap0 xs a1 a2 W hF hx hb1.1 hb1.2 hsrc).mono fun e W' ⟨he, bel⟩ => ?_
  subst he
  exact ⟨_, rfl, _, _, _, [], _, [], hW', trodAll_mk1 (shut_bool Ybaf.underlying4 _), (trodAll_cons_mk (Below.trod Ybaf.laidOut (by kernel_rfl) (of_decide_eq_true (by kernel_rfl)) k0 bel lt0) (trodAll_cons_mk (shut_int Ybaf.underlying23 w1) (trodAll_cons_mk (shut_int Ybaf.underlying3 w2) trodAll_mk0))), rfl, bel.frame _, fun h => by cases h⟩

theorem Ybaf.stops : Ybaf.pinned.checked.prog.stops = ["fmt.errorf"] := by kernel_rfl
theorem Ybaf.stopKnobs : Ybaf.pinned.checked.prog.stopKnobs = [] := by kernel_rfl
theorem Ybaf.quiet (os : Os) : Stop.quiet Ybaf.pinned.checked.prog os := by
  intro k hk
  rw [Ybaf.stopKnobs] at hk
  cases hk

theorem spec_told : Rows.LawS2149BSpecToldSaid :=
  Claim7.holds_of_told_any 3 Ybaf.f3 "fmt.errorf" [] [] _ _ _ (by kernel_rfl) rfl rfl rfl Ybaf.laidOut (by kernel_rfl) rfl ⟨rfl, rfl, rfl, rfl, rfl, rfl, rfl⟩ rfl rfl (by kernel_rfl) (by kernel_rfl) Ybaf.func3 (by kernel_rfl)
    (of_decide_eq_true (by kernel_rfl)) (of_decide_eq_true (by kernel_rfl)) Ybaf.stops.symm rfl Ybaf.stopKnobs.symm (by kernel_rfl)
    (by kernel_rfl) (by kernel_rfl) (by kernel_rfl) (by kernel_rfl) (by kernel_rfl) (by kernel_rfl) (by kernel_rfl) (by kernel_rfl) (by kernel_rfl) rfl (by kernel_rfl) rfl rfl
    rfl rfl
    rfl (by kernel_rfl) (by kernel_rfl) (by kernel_rfl) (by decide) (by kernel_rfl)
    (OpenClaim.moreEntering_of (by kernel_rfl) (by kernel_rfl) (by kernel_rfl) (by kernel_rfl) (by kernel_rfl) (by kernel_rfl) (by kernel_rfl) (by kernel_rfl) (by kernel_rfl) (by kernel_rfl))
    ⟨_, WideRow.started_initial, Ybaf.quiet _⟩
    (fun os started _ H enc _ => spec_lifted os started H enc)

end Go.Proofs.YbulkarmeFmt
