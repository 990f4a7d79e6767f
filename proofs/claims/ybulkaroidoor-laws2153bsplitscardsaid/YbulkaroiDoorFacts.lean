import Derived.Test.YbulkaroiDoorRow
set_option linter.unusedVariables false
namespace Go.Proofs.YbulkaroiDoor
open Go.RowKit Go.Deep

def SrcInts (s : Src) : Prop := (0 ≤ s.fs ∧ s.fs < 4294967296) ∧ (0 ≤ s.arp ∧ s.arp < 4294967296) ∧ (0 ≤ s.mu ∧ s.mu < 4294967296) ∧ (0 ≤ s.gd ∧ s.gd < 4294967296)

theorem rsize_toRule (s : Src) : rsize (toRule s) ≤ ssize s := by
  have h : uriSize (toRule s) ≤ s.uri.size := by
    unfold uriSize toRule optS
    cases s.hred <;> simp
  have h1 : rsize (toRule s) = s.name.size + uriSize (toRule s) + 64 + flowsSize s.flows := rfl
  rw [h1]
  unfold ssize
  omega

theorem ssize_mem (ss : List Src) : ∀ s ∈ ss, ssize s ≤ ssizes ss := by
  induction ss with
  | nil => simp
  | cons a q ih =>
    intro s hs
    simp only [ssizes]
    rcases List.mem_cons.1 hs with rfl | hs
    · omega
    · have := ih s hs; omega

theorem defs_wires (feat dq da : Int) (ss : List Src) : wires (defsOf feat dq da (ss.map toRule)) ≤ 2 * ssizes ss + 1400 * ss.length := by
  induction ss with
  | nil => simp [defsOf, wires, ssizes]
  | cons a q ih =>
    have h1 := wire_le (ruleA (toRule a) (markOf feat dq da (toRule a)))
    have h2 := ruleL_wires (toRule a) (markOf feat dq da (toRule a))
    have h3 := rsize_toRule a
    have h4 : (ruleA (toRule a) (markOf feat dq da (toRule a))).d.length = wires (ruleL (toRule a) (markOf feat dq da (toRule a))) := by unfold ruleA; rw [mk_len, allB_length]
    simp only [defsOf, List.map_cons, wires_cons, ssizes, List.length_cons] at ih ⊢
    omega

/-- The numbers of a rule that came in are of their kind, and its strings not longer than memory. -/
def SrcFine (s : Src) : Prop := ((0 ≤ s.prec ∧ s.prec < 4294967296) ∧ (0 ≤ s.rg ∧ s.rg < 4294967296) ∧ (0 ≤ s.qci ∧ s.qci < 4294967296)) ∧ SrcInts s ∧ SrcSmall s

theorem rules_ok (ss : List Src) (h : ∀ s ∈ ss, SrcFine s) (hz : ssizes ss ≤ 65536) : ∀ r ∈ ss.map toRule, RuleOk r := by
  intro r hr
  simp only [List.mem_map] at hr
  obtain ⟨s, hs, rfl⟩ := hr
  obtain ⟨⟨h1, h2, h3⟩, -, -⟩ := h s hs
  have h4 := rsize_toRule s
  have h5 := ssize_mem ss s hs
  exact ⟨h1, h2, h3, by omega⟩

theorem flows_few (ss : List Src) (hz : ssizes ss ≤ 65536) : ∀ s ∈ ss, s.flows.length ≤ 4000 := by
  intro s hs
  have h5 := ssize_mem ss s hs
  have h6 := flowsSize_len s.flows
  unfold ssize at h5
  omega

theorem SrcsAt.drewN {w : World} {sp : Option Addr} {q : Nat} {ss : List Src} (h : SrcsAt w sp ss) : SrcsAt (w.drewN q) sp ss := h

end Go.Proofs.YbulkaroiDoor
