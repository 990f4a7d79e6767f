import Derived.Test.YbulkaroiTab
import Derived.Laws.OwnMore
import Derived.Deep.Light
import Derived.Laws.StructEq
set_option linter.unusedVariables false
namespace Go.Proofs.Ybulkaroi
open Go.RowKit Go.Maps Go.Deep Go.MuLone

def ptr (p : Nat) : Value := .pointer (some ⟨p, 0, none⟩)

/-- Where a key stands, or -1. -/
def IdxIs (ks : List ByteArray) (h : ByteArray) (r : Int) : Prop := (r = -1 ∧ h ∉ ks) ∨ ∃ i : Nat, r = i ∧ ks[i]? = some h

theorem str_ne {a b : ByteArray} (e : ¬ a = b) : (a.toList == b.toList) = false := by
  rw [← beq_toListBytes]
  refine Bool.eq_false_iff.2 fun h => e ?_
  obtain ⟨x⟩ := a
  obtain ⟨y⟩ := b
  have hxy : (x == y) = true := h
  rw [eq_of_beq hxy]

def NoneYet (ks : List ByteArray) (h : ByteArray) (k : Nat) : Prop := ∀ j : Nat, j < k → ks[j]? ≠ some h

set_option maxHeartbeats 1000000 in
theorem idx_calls (B : Nat) (v : Value) (ks : List ByteArray) (h : ByteArray) (w : World) (hown : w.ownsRow B 9 1 v ks.length (ks.map Value.string)) (hn : ks.length ≤ 5000) :
    Calls Yba.prog 6 #[v, .string h] w fun e w' => ∃ r, e = .returned (.int .i64 r) ∧ w' = w ∧ IdxIs ks h r := by
  obtain ⟨a, cap, rfl, hc⟩ : ∃ a cap, v = .slice a ks.length cap ∧ ∀ (j : Nat) (s : ByteArray), ks[j]? = some s → ∃ g, a = some ⟨g, 0, none⟩ ∧ w.cell? ⟨g, j, none⟩ = some (.string s) := by
    rcases hown.2 with ⟨rfl, h0⟩ | ⟨g, cap, cur, rfl, hb, hg, hnc, hcm, hcs, htake⟩
    · have : ks = [] := List.length_eq_zero_iff.1 h0
      subst this
      exact ⟨none, 0, rfl, fun j s hj => by simp at hj⟩
    · refine ⟨some ⟨g, 0, none⟩, cap, rfl, fun j s hj => ⟨g, rfl, ?_⟩⟩
      have hlt := (List.getElem?_eq_some_iff.1 hj).1
      have := hown.cellAt j (by omega)
      rw [this]
      simp [hj]
  clear hown
  have HC : Hid (∀ (j : Nat) (s : ByteArray), ks[j]? = some s → ∃ g, a = some ⟨g, 0, none⟩ ∧ w.cell? ⟨g, j, none⟩ = some (.string s)) := hc
  clear hc
  go_enter Yba.func6, Yba.ntmps6
  go_wp2_with fail
  go_loop [5] (fun i => ∃ k : Nat, k ≤ ks.length ∧ i = .int .i64 k ∧ NoneYet ks h k) (fun i => ks.length - (intOf i).toNat)
  case atStart => exact ⟨0, Nat.zero_le _, rfl, fun j hj => by omega⟩
  case round =>
    obtain ⟨k, hk, rfl, hno⟩ := hrel
    by_cases hlt : k < ks.length
    · have hget : ks[k]? = some ks[k] := List.getElem?_eq_getElem hlt
      obtain ⟨g, rfl, hcell⟩ := HC.out k _ hget
      generalize ks[k] = s at *
      by_cases e : s = h
      · subst e
        go_wp2_with fail
        go_ret
        exact ⟨k, rfl, rfl, .inr ⟨k, rfl, hget⟩⟩
      · have hbe : (s.toList == h.toList) = false := str_ne e
        go_wp2_with fail
        have hno' : NoneYet ks h (k + 1) := by
          intro j hj
          by_cases hjk : j = k
          · subst hjk; rw [hget]; simpa using e
          · exact hno j (by omega)
        clear hno
        go_round
        case rel => exact ⟨k + 1, by omega, by go_num, hno'⟩
        case measure => simp [intOf]; omega
    · have hk' : k = ks.length := by omega
      subst hk'
      go_wp2_with fail
      go_ret
      refine ⟨-1, rfl, rfl, .inl ⟨rfl, fun hm => ?_⟩⟩
      obtain ⟨j, hj, e⟩ := List.getElem_of_mem hm
      exact hno j hj (by rw [List.getElem?_eq_getElem hj, e])

/-- The list says what the table holds. -/
def Rel (kv : List (ByteArray × Nat)) (f : ByteArray → Option Nat) : Prop := (∀ k p, (k, p) ∈ kv → f k = some p) ∧ ∀ h, h ∉ kv.map (·.1) → f h = none

theorem Rel.some {kv : List (ByteArray × Nat)} {f : ByteArray → Option Nat} (r : Rel kv f) {h : ByteArray} {p : Nat} (e : f h = some p) : (h, p) ∈ kv := by
  by_cases hm : h ∈ kv.map (·.1)
  · obtain ⟨⟨k, q⟩, hx, rfl⟩ := List.mem_map.1 hm
    have := r.1 k q hx
    simp only at e
    rw [this] at e
    cases e
    exact hx
  · rw [r.2 h hm] at e; cases e

theorem rowSlice {w : World} {B : Nat} {t : TypeId} {v : Value} {n : Nat} {xs : List Value} (h : w.ownsRow B t 1 v n xs) :
    ∃ a cap, v = .slice a n cap ∧ ∀ (j : Nat) (u : Value), xs[j]? = some u → ∃ g, a = some ⟨g, 0, none⟩ ∧ w.cell? ⟨g, j, none⟩ = some u := by
  rcases h.2 with ⟨rfl, h0⟩ | ⟨g, cap, cur, rfl, hb, hg, hnc, hcm, hcs, htake⟩
  · have hx : xs = [] := List.length_eq_zero_iff.1 (by rw [h.1, h0])
    subst hx
    subst h0
    exact ⟨none, 0, rfl, fun j s hj => by simp at hj⟩
  · refine ⟨some ⟨g, 0, none⟩, cap, rfl, fun j s hj => ⟨g, rfl, ?_⟩⟩
    have hlt := (List.getElem?_eq_some_iff.1 hj).1
    rw [h.1] at hlt
    rw [h.cellAt j hlt]
    exact hj

set_option maxRecDepth 100000 in
set_option maxHeartbeats 1000000 in
theorem check_calls (B tb c : Nat) (f : ByteArray → Option Nat) (v7 v8 : Value) (kv : List (ByteArray × Nat)) (h : ByteArray) (w : World) (ht : TabIs B w tb c f) (hs : h.size ≤ maxLen) (hn : kv.length ≤ 5000)
    (h7 : w.ownsRow B 9 1 v7 (kv.map (·.1)).length ((kv.map (·.1)).map Value.string)) (h8 : w.ownsRow B 38 1 v8 kv.length (kv.map fun x => ptr x.2)) (hr : Rel kv f) (hp : ∀ x ∈ kv, ∃ h, PeerAt w x.2 h) :
    Calls Yba.prog 8 #[.pointer (some ⟨tb, 0, none⟩), v7, v8, .string h] w fun e w' => e = .returned (.bool true) ∧ w' = w := by
  obtain ⟨a8, cap8, rfl, hc8⟩ := rowSlice h8
  have H8 : Hid (∀ (j : Nat) (u : Value), (kv.map fun x => ptr x.2)[j]? = some u → ∃ g, a8 = some ⟨g, 0, none⟩ ∧ w.cell? ⟨g, j, none⟩ = some u) := hc8
  have HR : Hid (Rel kv f) := hr
  have HP : Hid (∀ x ∈ kv, ∃ h, PeerAt w x.2 h) := hp
  clear hc8 hr hp h8
  go_enter Yba.func8, Yba.ntmps8
  go_wp2_with fail
  refine (find_calls B tb c f h w ht hs).mono ?_
  rintro e w1 ⟨rfl, hw1⟩
  subst hw1
  go_wp2_with fail
  refine (idx_calls B v7 (kv.map (·.1)) h w1 h7 (by simpa using hn)).mono ?_
  rintro e w1 ⟨r, rfl, rfl, hi⟩
  rcases hi with ⟨rfl, hno⟩ | ⟨i, rfl, hget⟩
  · have e0 := HR.out.2 h hno
    rw [e0]
    go_wp2_with fail
    go_ret
    exact ⟨rfl, rfl⟩
  · simp only [List.getElem?_map, Option.map_eq_some_iff] at hget
    obtain ⟨⟨k, p⟩, hg, rfl⟩ := hget
    have hm := List.mem_of_getElem? hg
    have e0 := HR.out.1 k p hm
    rw [show f (k, p).1 = some p from e0]
    obtain ⟨g, rfl, hcell⟩ := H8.out i (ptr p) (by simp [hg])
    have hlt := (List.getElem?_eq_some_iff.1 hg).1
    obtain ⟨x, hx⟩ := HP.out _ hm
    have heq : (binOp .eql 38 (.pointer (some ⟨p, 0, none⟩)) (.pointer (some ⟨p, 0, none⟩))).run Yba.prog w1 = .ok (.bool true) w1 := by
      have := eq_ptr (o := Option.some p) hx (fun q hq => by cases hq; exact ⟨x, hx⟩)
      simpa [adr] using this
    unfold ptr at hcell
    simp only [Option.map_some, adr, Option.isSome_some]
    go_wp2_with fail
    go_ret
    exact ⟨rfl, rfl⟩

end Go.Proofs.Ybulkaroi
