import Derived.Test.YbulkaroiDoorParse
set_option linter.unusedVariables false
namespace Go.Proofs.YbulkaroiDoor
open Go.RowKit Go.Deep

/-- The AVPs that a group splits into, in a row of the call's own. -/
def Parts (w : World) (g o : Nat) (ls : List Avp) (e : Ending) (w' : World) : Prop :=
  ∃ v, e = .returned (.tuple #[v, .nilIface]) ∧ w'.ownsRow w.heap.size 29 4 v ls.length (cellsOf (rsAt g o ls)) ∧ Below w.heap.size w w'

theorem Ybad.zero100 : Ybad.zeroCells100.size = 128 := by kernel_rfl

/-- 'append([]AVP(nil), s...)'. -/
theorem copy_avps {w : World} {ops : Array Oper} {rest : List Oper} {o : Oper} {a : Act} {Q : Exit → Act → World → Prop} (hgd : o.guard = none) (x : Operand)
    (ho : o.op = .call { callee := .builtin .append, args := #[.const (.slice none 0 0), x], argTypes := #[52, 52] }) (base G n cap : Nat) (rs : List R) (hx : a.eval x = .slice (some ⟨G, 0, none⟩) n cap) (hn : rs.length = n)
    (hnews : ∀ (j : Nat) (u : Value), (cellsOf rs)[j]? = some u → w.cell? ⟨G, j, none⟩ = some u) (hl : n ≤ 1000) (hB : base ≤ w.heap.size)
    (h : ∀ v' w', w'.ownsRow base 29 4 v' n (cellsOf rs) → Below base w w' → wpList Ybad.prog ops Q rest (a.put o.dst v') w') : wpList Ybad.prog ops Q (o :: rest) a w := by
  obtain ⟨i, hi, hxx⟩ := Option.map_eq_some_iff.1 Ybad.info29'
  simp only [Prod.mk.injEq] at hxx
  obtain ⟨hz0, hz1, hz2⟩ := hxx
  have hone : ∀ u ∈ cellsOf rs, u.oneCell' = true := by
    intro u hu
    simp only [cellsOf, List.mem_flatMap] at hu
    obtain ⟨r, _, hr⟩ := hu
    exact cells_one r u hr
  refine wpList_append_own_at w hgd (.const (.slice none 0 0)) x 52 ho base 29 i _ 4 40 Ybad.underlying52 hi hz0 hz1 hz2 rfl (by decide) (.slice none 0 0) 0 [] rfl (World.ownsRow_nil w base 29 4) ⟨G, 0, none⟩ n cap (cellsOf rs) hx (by rw [cellsOf_length, hn]) (fun j u hu => by rw [Addr.add_lit, Nat.zero_add]; exact hnews j u hu) hone (by unfold maxLen; omega) (by omega) hB ?_
  intro v' w' h1 h2 _ _
  refine h v' w' (by simpa using h1) ((Below.refl _ _).grown h2 hB (fun k e => by cases e))

set_option maxRecDepth 100000 in
set_option maxHeartbeats 4000000 in
theorem split_calls (g o K : Nat) (p : Option Addr) (ls : List Avp) (w : World) (hg : g < w.heap.size) (hby : Bytes w g o (allB ls))
    (hp : 0 < wires ls → p = some ⟨g, o, none⟩) (hK : wires ls ≤ K) (hok : ∀ a ∈ ls, AvpOk a) (hf : ∀ a ∈ ls, a.f = 192) (hn : ls.length ≤ 256) (hw : wires ls ≤ 90000000) :
    Calls Ybad.prog 24 #[.slice p (wires ls) K] w fun e w' => Parts w g o ls e w' := by
  have HBY : Hid (Bytes w g o (allB ls)) := hby
  have HOK : Hid (∀ a ∈ ls, AvpOk a) := hok
  have HF : Hid (∀ a ∈ ls, a.f = 192) := hf
  clear hby hok hf
  have BA : Below w.heap.size w (w.alloc (.cells Ybad.zeroCells100 100)) := (Below.refl _ _).alloc (Nat.le_refl _) _
  have hrow : RowX (w.alloc (.cells Ybad.zeroCells100 100)) w.heap.size (.slice (some ⟨w.heap.size, 0, none⟩) 0 32) [] :=
    ⟨w.heap.size, 32, Ybad.zeroCells100, 100, rfl, Nat.le_refl _, heap_alloc_new w _, by simp, by unfold maxLen; omega, Ybad.zero100, by simp [cellsOf]⟩
  have HROW : Hid (RowX (w.alloc (.cells Ybad.zeroCells100 100)) w.heap.size (.slice (some ⟨w.heap.size, 0, none⟩) 0 32) []) := hrow
  clear hrow
  go_enter Ybad.func24, Ybad.ntmps24
  go_wp2_with fail
  refine (parse_calls w.heap.size g o K p ls _ _ BA.size hg HROW.out (HBY.out.keep BA hg) hp hK HOK.out HF.out hn hw).mono ?_
  rintro e w1 ⟨v, rfl, b1, hr1⟩
  have B1 := BA.trans b1
  have hz1 := B1.size
  have hr2 := hr1
  obtain ⟨G, cap, cur, t, rfl, -⟩ := hr1
  have HR2 : Hid (RowX w1 w.heap.size (.slice (some ⟨G, 0, none⟩) (rsAt g o ls).length cap) (rsAt g o ls)) := hr2
  clear hr2 b1 BA HROW
  have hl := rsAt_length g o ls
  have HL : Hid ((rsAt g o ls).length = ls.length) := hl
  clear hl
  generalize hrs : rsAt g o ls = rs at *
  have HRS : Hid (rsAt g o ls = rs) := hrs
  clear hrs
  generalize hrn : rs.length = n at *
  have HRN : Hid (rs.length = n) := hrn
  clear hrn
  go_wp2_with (at_builtin; refine copy_avps ?_ (.tmp 13) ?_ w.heap.size G n cap rs ?_ ?_ ?_ ?_ hz1 ?_; rfl; rfl; rfl; exact HRN.out; exact (fun j u hu => HR2.out.cell (by rw [HRN.out]) j u hu); (have := HL.out; omega); intro v9 w9 ho9 hb9)
  refine bodyPost_ret (v := .tuple #[v9, .nilIface]) (by simp [results, Ybad.results24, go_sem]) rfl ?_
  exact ⟨v9, rfl, by rw [HRS.out, ← HL.out]; exact ho9, B1.trans hb9⟩

set_option maxHeartbeats 1000000 in
theorem avpGrouped_calls (c f v : Int) (g o K : Nat) (p : Option Addr) (ls : List Avp) (w : World) (hg : g < w.heap.size) (hby : Bytes w g o (allB ls))
    (hp : 0 < wires ls → p = some ⟨g, o, none⟩) (hK : wires ls ≤ K) (hok : ∀ a ∈ ls, AvpOk a) (hf : ∀ a ∈ ls, a.f = 192) (hn : ls.length ≤ 256) (hw : wires ls ≤ 90000000) :
    Calls Ybad.prog 13 #[.agg #[.int .u32 c, .int .u8 f, .int .u32 v, .slice p (wires ls) K]] w fun e w' => Parts w g o ls e w' := by
  have HBY : Hid (Bytes w g o (allB ls)) := hby
  have HOK : Hid (∀ a ∈ ls, AvpOk a) := hok
  have HF : Hid (∀ a ∈ ls, a.f = 192) := hf
  clear hby hok hf
  have BA : ∀ ob, Below w.heap.size w (w.alloc ob) := fun ob => (Below.refl _ _).alloc (Nat.le_refl _) _
  go_enter Ybad.func13, Ybad.ntmps13
  go_wp2_with fail
  refine (split_calls g o K p ls _ (by simp; omega) (HBY.out.keep (BA _) hg) hp hK HOK.out HF.out hn hw).mono ?_
  rintro e w1 ⟨v1, rfl, ho1, hb1⟩
  go_wp2_with fail
  refine bodyPost_ret (v := .tuple #[v1, .nilIface]) (by simp [results, Ybad.results13, go_sem]) rfl ?_
  refine ⟨v1, rfl, ⟨ho1.1, ?_⟩, (BA _).trans (hb1.mono (by simp))⟩
  rcases ho1.2 with h0 | ⟨g1, cap, cur, e1, hb, hr⟩
  · exact .inl h0
  · exact .inr ⟨g1, cap, cur, e1, by simp at hb; omega, hr⟩

end Go.Proofs.YbulkaroiDoor
