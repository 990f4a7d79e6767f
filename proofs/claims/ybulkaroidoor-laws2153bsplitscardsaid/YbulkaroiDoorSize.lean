import Derived.Test.YbulkaroiDoorRule
set_option linter.unusedVariables false
namespace Go.Proofs.YbulkaroiDoor
open Go.RowKit Go.Deep

def uriSize (r : Rule) : Nat := match r.red with | none => 0 | some (u, _) => u.size
def flowsSize : List ByteArray → Nat
  | [] => 0
  | s :: q => s.size + 32 + flowsSize q
/-- What the law counts of a rule. -/
def rsize (r : Rule) : Nat := r.name.size + uriSize r + 64 + flowsSize r.flows

theorem flowsSize_mem (fs : List ByteArray) : ∀ s ∈ fs, s.size + 32 ≤ flowsSize fs := by
  induction fs with
  | nil => simp
  | cons q qs ih =>
    intro s hs
    simp only [flowsSize]
    rcases List.mem_cons.1 hs with rfl | hs
    · omega
    · have := ih s hs; omega

theorem flowsSize_len (fs : List ByteArray) : fs.length * 32 ≤ flowsSize fs := by
  induction fs with
  | nil => simp [flowsSize]
  | cons q qs ih => simp only [flowsSize, List.length_cons]; omega

theorem flowA_d (fi : Option Int) (s : ByteArray) : (flowA fi s).d.length ≤ s.size + 34 := by
  have h1 := wire_le (mk 3 (strB s))
  have h2 := optA_wires 4 fi
  rw [mk_len, strB_len] at h1
  simp only [flowA, mk_len, allB_length, wires_append, wires_cons, wires_nil]; omega

theorem flows_wires (fi : Option Int) (fs : List ByteArray) : wires (fs.map (flowA fi)) ≤ 2 * flowsSize fs := by
  induction fs with
  | nil => simp [wires, flowsSize]
  | cons s q ih =>
    have h1 := wire_le (flowA fi s)
    have h2 := flowA_d fi s
    simp only [List.map_cons, wires_cons, flowsSize]; omega

theorem redA_d (u : ByteArray) (s : Bool) : (redA u s).d.length ≤ u.size + 90 := by
  have h1 := wire_le (mk 18 (be32 1))
  have h2 := wire_le (mk 19 (be32 2))
  have h3 := wire_le (mk 20 (strB u))
  have h4 := wire_le (mk 21 (be32 1))
  rw [mk_len, be32_len] at h1 h2 h4
  rw [mk_len, strB_len] at h3
  simp only [redA, mk_len, allB_length, wires_append, wires_cons, wires_nil]
  cases s <;> simp [wires] <;> omega

theorem redL_wires (r : Rule) : wires (redL r.red) ≤ uriSize r + 105 := by
  unfold uriSize
  cases h : r.red with
  | none => simp [redL, wires]
  | some us =>
    obtain ⟨u, s⟩ := us
    have h1 := wire_le (redA u s)
    have h2 := redA_d u s
    simp only [redL, wires_cons, wires_nil]; omega

theorem ruleL_wires (r : Rule) (fi : Option Int) : wires (ruleL r fi) ≤ 2 * rsize r + 1300 := by
  have h1 := wire_le (mk 1 (strB r.name))
  have h2 := wire_le (mk 2 (be32 r.rg))
  have h3 := flows_wires fi r.flows
  have h4 := optA_wires 6 r.fs
  have h5 := wire_le (mk 12 (allB (qosL r)))
  have h6 := wire_le (mk 13 (be32 r.prec))
  have h7 := redL_wires r
  have h8 : wires (qosL r) ≤ 1000 := qos_wires r
  rw [mk_len, strB_len] at h1
  rw [mk_len, be32_len] at h2 h6
  rw [mk_len, allB_length] at h5
  simp only [ruleL, wires_append, wires_cons, wires_nil, rsize]; omega

theorem ruleL_ok (r : Rule) (fi : Option Int) (h : rsize r ≤ 70000) : ∀ a ∈ ruleL r fi, AvpOk a := by
  have hs := h
  unfold rsize at hs
  intro a ha
  simp only [ruleL, List.mem_append] at ha
  rcases ha with (((ha | ha) | ha) | ha) | ha
  · simp at ha
    rcases ha with rfl | rfl
    · exact mk_ok _ _ (by rw [strB_len]; omega)
    · exact mk_ok _ _ (by simp [be32])
  · simp only [List.mem_map] at ha
    obtain ⟨s, hm, rfl⟩ := ha
    have h1 := flowA_d fi s
    have h2 := flowsSize_mem r.flows s hm
    exact mk_ok _ _ (by simp only [flowA, mk_len] at h1; omega)
  · exact optA_ok _ _ a ha
  · simp at ha
    rcases ha with rfl | rfl
    · exact mk_ok _ _ (by rw [allB_length]; have : wires (qosL r) ≤ 1000 := qos_wires r; omega)
    · exact mk_ok _ _ (by simp [be32])
  · cases hr : r.red with
    | none => rw [hr] at ha; simp [redL] at ha
    | some us =>
      obtain ⟨u, s⟩ := us
      rw [hr] at ha
      simp [redL] at ha
      subst ha
      have h1 := redA_d u s
      have h2 : uriSize r = u.size := by unfold uriSize; rw [hr]
      exact mk_ok _ _ (by simp only [redA, mk_len] at h1; omega)

theorem optA_len' (g : Nat) (o : Option Int) : (optA g o).length ≤ 1 := optA_len g o

theorem ruleL_len (r : Rule) (fi : Option Int) (h : rsize r ≤ 70000) : (ruleL r fi).length ≤ 100000 := by
  have h1 := optA_len 6 r.fs
  have h2 := flowsSize_len r.flows
  have h3 : (redL r.red).length ≤ 1 := by cases h : r.red <;> simp [redL]
  unfold rsize at h
  simp [ruleL]; omega

theorem ruleA_ok (r : Rule) (fi : Option Int) (h : rsize r ≤ 70000) : AvpOk (ruleA r fi) :=
  mk_ok _ _ (by rw [allB_length]; have := ruleL_wires r fi; omega)

end Go.Proofs.YbulkaroiDoor
