import Derived.Test.YbulkaroiDoorSize
set_option linter.unusedVariables false
namespace Go.Proofs.YbulkaroiDoor
open Go.RowKit Go.Deep

/-- A rule as the law's caller hands it over. -/
structure Src where
  name : ByteArray
  prec : Int
  rg : Int
  flows : List ByteArray
  media : Bool
  hfs : Bool
  fs : Int
  qci : Int
  harp : Bool
  arp : Int
  hmu : Bool
  mu : Int
  hgd : Bool
  gd : Int
  hred : Bool
  uri : ByteArray
  su : Bool

/-- Its seventeen cells. -/
def SrcAt (w : World) (b o : Nat) (s : Src) : Prop :=
  ∃ fp fk, (w.cell? ⟨b, o, none⟩ = some (.string s.name) ∧ w.cell? ⟨b, o + 1, none⟩ = some (.int .u32 s.prec) ∧ w.cell? ⟨b, o + 2, none⟩ = some (.int .u32 s.rg) ∧ w.cell? ⟨b, o + 3, none⟩ = some (.slice fp s.flows.length fk) ∧ w.cell? ⟨b, o + 4, none⟩ = some (.bool s.media) ∧ w.cell? ⟨b, o + 5, none⟩ = some (.bool s.hfs) ∧ w.cell? ⟨b, o + 6, none⟩ = some (.int .u32 s.fs) ∧ w.cell? ⟨b, o + 7, none⟩ = some (.int .u32 s.qci) ∧ w.cell? ⟨b, o + 8, none⟩ = some (.bool s.harp) ∧ w.cell? ⟨b, o + 9, none⟩ = some (.int .u32 s.arp) ∧ w.cell? ⟨b, o + 10, none⟩ = some (.bool s.hmu) ∧ w.cell? ⟨b, o + 11, none⟩ = some (.int .u32 s.mu) ∧ w.cell? ⟨b, o + 12, none⟩ = some (.bool s.hgd) ∧ w.cell? ⟨b, o + 13, none⟩ = some (.int .u32 s.gd) ∧ w.cell? ⟨b, o + 14, none⟩ = some (.bool s.hred) ∧ w.cell? ⟨b, o + 15, none⟩ = some (.string s.uri) ∧ w.cell? ⟨b, o + 16, none⟩ = some (.bool s.su)) ∧ (fp = none → fk = 0) ∧ StrsAt w w.heap.size fp s.flows

def SrcsAt (w : World) (sp : Option Addr) (ss : List Src) : Prop := ∀ i s, ss[i]? = some s → ∃ b o, sp = some ⟨b, o, none⟩ ∧ SrcAt w b (o + i * 17) s

def ssize (s : Src) : Nat := s.name.size + s.uri.size + 64 + flowsSize s.flows
def ssizes : List Src → Nat
  | [] => 0
  | s :: q => ssize s + ssizes q

theorem ssizes_snoc (l : List Src) (s : Src) : ssizes (l ++ [s]) = ssizes l + ssize s := by
  induction l with
  | nil => simp [ssizes]
  | cons a r ih => simp [ssizes, ih]; omega

theorem flowsSize_snoc (l : List ByteArray) (s : ByteArray) : flowsSize (l ++ [s]) = flowsSize l + (s.size + 32) := by
  induction l with
  | nil => simp [flowsSize]
  | cons a r ih => simp [flowsSize, ih]; omega

/-- The strings that came in are not longer than memory is. -/
def SrcSmall (s : Src) : Prop := s.name.size ≤ 140737488355328 ∧ s.uri.size ≤ 140737488355328 ∧ ∀ f ∈ s.flows, f.size ≤ 140737488355328

theorem flowsSize_le (l : List ByteArray) (h : ∀ f ∈ l, f.size ≤ 140737488355328) : flowsSize l ≤ l.length * 140737488355360 := by
  induction l with
  | nil => simp [flowsSize]
  | cons a r ih =>
    have h1 := h a (by simp)
    have h2 := ih (fun f hf => h f (by simp [hf]))
    simp only [flowsSize, List.length_cons]; omega

theorem flowsSize_take (l : List ByteArray) (j : Nat) (h : ∀ f ∈ l, f.size ≤ 140737488355328) (hl : l.length ≤ 256) : flowsSize (l.take j) ≤ 36028797018972160 := by
  have h1 := flowsSize_le (l.take j) (fun f hf => h f (List.mem_of_mem_take hf))
  have h2 : (l.take j).length ≤ 256 := by simp; omega
  have h3 := Nat.mul_le_mul_right 140737488355360 h2
  exact Nat.le_trans h1 h3

set_option maxRecDepth 100000 in
set_option maxHeartbeats 2000000 in
theorem size_calls (sp : Option Addr) (cap : Nat) (ss : List Src) (w : World) (hat : SrcsAt w sp ss) (hsm : ∀ s ∈ ss, SrcSmall s) (hn : ss.length ≤ 256) :
    Calls Ybad.prog 5 #[.slice sp ss.length cap] w fun e w' => ∃ n : Nat, e = .returned (.int .i64 n) ∧ (n ≤ 65536 → ssizes ss ≤ 65536) ∧ ∃ q, w' = w.drewN q := by
  have HAT : Hid (SrcsAt w sp ss) := hat
  have HSM : Hid (∀ s ∈ ss, SrcSmall s) := hsm
  clear hat hsm
  go_enter Ybad.func5, Ybad.ntmps5
  go_wp2_with fail
  go_loopw [3, 4] (fun n i wr => ∃ k q : Nat, k ≤ ss.length ∧ i = .int .i64 k ∧ n = .int .i64 (ssizes (ss.take k)) ∧ ssizes (ss.take k) ≤ 65536 ∧ wr = w.drewN q) (fun _ i _ => ss.length - (intOf i).toNat)
  case atStart => exact ⟨0, 0, Nat.zero_le _, rfl, rfl, Nat.zero_le _, rfl⟩
  case round =>
    obtain ⟨k, q, hk, rfl, rfl, hle, rfl⟩ := hrel
    by_cases hlt : k < ss.length
    · have hget : ss[k]? = some ss[k] := List.getElem?_eq_getElem hlt
      have hsmk := HSM.out ss[k] (List.getElem_mem hlt)
      have hatk := HAT.out k _ hget
      have hsn := ssizes_snoc (ss.take k) ss[k]
      rw [← take_snoc ss k ss[k] hget] at hsn
      generalize ss[k] = s at *
      obtain ⟨b, o, hsp, hatk⟩ := hatk
      subst hsp
      obtain ⟨fp, fk, ⟨c0, -, -, c3, -, -, -, -, -, -, -, -, -, -, -, c15, -⟩, hfk, hstr⟩ := hatk
      have HSN : Hid (ssizes (ss.take (k + 1)) = ssizes (ss.take k) + ssize s) := hsn
      have HST : Hid (StrsAt w w.heap.size fp s.flows) := hstr
      obtain ⟨m1, m2, m3⟩ := hsmk
      have HM3 : Hid (∀ f ∈ s.flows, f.size ≤ 140737488355328) := m3
      clear hsn hget hstr m3
      go_wp2_with fail
      go_quiet (fail)
      by_cases hf : 256 < s.flows.length
      · have hf' : (256 : Int) < s.flows.length := by omega
        go_wp2_with fail
        go_ret
        exact ⟨1073741824, by simp, fun h => by omega, _, rfl⟩
      · have hfl := flowsSize_le s.flows HM3.out
        go_wp2_with fail
        go_loop [3, 5] (fun n j5 => ∃ j : Nat, j ≤ s.flows.length ∧ j5 = .int .i64 j ∧ n = .int .i64 (((ssizes (ss.take k) + (s.name.size + s.uri.size + 64) + flowsSize (s.flows.take j) : Nat)) : Int)) (fun _ j5 => s.flows.length - (intOf j5).toNat)
        case atStart => exact ⟨0, Nat.zero_le _, rfl, by simp [flowsSize]⟩
        case round =>
          obtain ⟨j, hj, rfl, rfl⟩ := hrel
          by_cases hjl : j < s.flows.length
          · have hgj : s.flows[j]? = some s.flows[j] := List.getElem?_eq_getElem hjl
            have hmj := HM3.out s.flows[j] (List.getElem_mem hjl)
            have hsj := flowsSize_snoc (s.flows.take j) s.flows[j]
            rw [← take_snoc s.flows j s.flows[j] hgj] at hsj
            have htk := flowsSize_take s.flows j HM3.out (by omega)
            have hfa : ∃ fb fo, fp = some ⟨fb, fo, none⟩ ∧ w.cell? ⟨fb, fo + j, none⟩ = some (.string s.flows[j]) := by
              cases hfp : fp with
              | none => have h9 := HST.out.1 hfp; rw [h9] at hjl; simp at hjl
              | some ad =>
                obtain ⟨fb, fo, e1, e2, e3⟩ := HST.out.2 ad hfp (fun e => by rw [e] at hjl; simp at hjl)
                subst e1
                exact ⟨fb, fo, rfl, e3 j _ hgj⟩
            obtain ⟨fb, fo, hfp, hfc⟩ := hfa
            generalize s.flows[j] = fl at *
            have HSJ : Hid (flowsSize (s.flows.take (j + 1)) = flowsSize (s.flows.take j) + (fl.size + 32)) := hsj
            clear hsj hgj
            subst hfp
            generalize hFT : flowsSize (s.flows.take j) = FT at *
            have HFT : Hid (flowsSize (s.flows.take j) = FT) := hFT
            clear hFT
            go_wp2_with fail
            go_round
            case rel => exact ⟨j + 1, by omega, by go_num, by rw [HSJ.out]; go_num⟩
            case measure => simp [intOf]; omega
          · have hj' : j = s.flows.length := by omega
            subst hj'
            rw [List.take_length]
            have HT : Hid (ssizes (ss.take (k + 1)) = ssizes (ss.take k) + (s.name.size + s.uri.size + 64) + flowsSize s.flows) := by rw [HSN.out]; unfold ssize; show _ = _; omega
            generalize hFT : ssizes (ss.take k) + (s.name.size + s.uri.size + 64) + flowsSize s.flows = FT at *
            clear hFT
            by_cases hbig : 65536 < FT
            · have hbig' : (65536 : Int) < FT := by omega
              go_wp2_with fail
              go_ret
              exact ⟨FT, rfl, fun h => by omega, _, rfl⟩
            · go_wp2_with fail
              go_roundw
              case rel => exact ⟨k + 1, _, by omega, by go_num, by rw [HT.out], by rw [HT.out]; omega, rfl⟩
              case measure => simp [intOf]; omega
    · have hk' : k = ss.length := by omega
      subst hk'
      rw [List.take_length] at hle
      go_wp2_with fail
      go_ret
      exact ⟨ssizes ss, (by simp), fun _ => hle, _, rfl⟩

end Go.Proofs.YbulkaroiDoor
