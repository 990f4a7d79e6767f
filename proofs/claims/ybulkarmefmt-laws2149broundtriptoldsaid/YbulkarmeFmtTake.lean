import Derived.Test.YbulkarmeFmtFacts
import Derived.WalkKit
import Derived.WalkSpells
import Derived.WalkLawsBesides
import Derived.Deep.QuietTactic
import Derived.BigQuiet
import Derived.Deep.RegionHeld3
set_option linter.unusedVariables false
namespace Go.Proofs.YbulkarmeFmt
open Go.RowKit Go.Extern.Stop Go.Stop Go.Extern

set_option maxHeartbeats 400000 in
theorem take_err (F : Interp) (b g len cap : Nat) (off first n : Int) (s : ByteArray) (w : World) (hF : F.answers w.tape)
    (hc0 : w.cell? ⟨b, 0, none⟩ = some (.slice (some ⟨g, 0, none⟩) len cap)) (hc1 : w.cell? ⟨b, 1, none⟩ = some (.int .i64 off))
    (hc2 : w.cell? ⟨b, 2, none⟩ = some (.int .i64 first)) (hc3 : w.cell? ⟨b, 3, none⟩ = some (.string s))
    (hb : b < w.heap.size) (hl : len ≤ 4000) (h0 : 0 ≤ off) (h1 : off ≤ len) (hn0 : 0 ≤ n) (hn1 : n ≤ 300) (hlt : (len : Int) - off < n) :
    Calls Ybaf.prog 6 #[.pointer (some ⟨b, 0, none⟩), .int .i64 n] w fun e w' =>
      (∃ a, e = .returned (.tuple #[.slice none 0 0, .iface 44 (.pointer (some a))])) ∧ Below w.heap.size w w' := by
  go_enter Ybaf.func6, Ybaf.ntmps6
  go_wp2_with fail
  go_quiet (fail)
  go_wp2_with fail
  go_region_held3 (fun w' => w'.cell? ⟨b, 0, none⟩ = some (.slice (some ⟨g, 0, none⟩) len cap) ∧ w'.cell? ⟨b, 1, none⟩ = some (.int .i64 off) ∧ w'.cell? ⟨b, 2, none⟩ = some (.int .i64 first) ∧ w'.cell? ⟨b, 3, none⟩ = some (.string s)) (go_keep)
    ((go_at_call 7; refine (errorf_take' F s _ _ _ _ ?_ ?_).mono ?_; (exact hF); (exact rfl); rintro e w' ⟨rfl, t, rfl⟩))
  all_goals go_wp2_with fail
  all_goals go_ret2
  all_goals exact ⟨⟨_, rfl⟩, (((below_drewN (Below.refl _ _) _).alloc (Nat.le_refl _) _).alloc (by simp) _).drew⟩

/-- What take leaves where n octets are there: the slice, capped at its length (at no octets its offset is left open: Go keeps the base), and the offset moved. -/
def TookOk (g b : Nat) (off n : Int) (w : World) (e : Ending) (w' : World) : Prop :=
  ∃ o k : Nat, (0 < n → o = off.toNat) ∧ e = .returned (.tuple #[.slice (some ⟨g, o, none⟩) n.toNat n.toNat, .nilIface]) ∧ w' = (w.drewN k).setCell ⟨b, 1, none⟩ (.int .i64 (off + n))

set_option maxHeartbeats 400000 in
theorem take_ok (b g len cap : Nat) (off n : Int) (w : World)
    (hc0 : w.cell? ⟨b, 0, none⟩ = some (.slice (some ⟨g, 0, none⟩) len cap)) (hc1 : w.cell? ⟨b, 1, none⟩ = some (.int .i64 off))
    (hfz : w.frozen? ⟨b, 1, none⟩ = false)
    (hl : len ≤ 4000) (hcap : len ≤ cap) (h0 : 0 ≤ off) (h1 : off ≤ len) (hn0 : 0 ≤ n) (hn1 : n ≤ 300) (hlt : n ≤ (len : Int) - off) :
    Calls Ybaf.prog 6 #[.pointer (some ⟨b, 0, none⟩), .int .i64 n] w fun e w' => TookOk g b off n w e w' := by
  go_enter Ybaf.func6, Ybaf.ntmps6
  go_wp2_with fail
  go_quiet (fail)
  go_wp2_with fail
  go_quiet (fail)
  go_wp2_with fail
  · have e0 : n = 0 := by omega
    subst e0
    go_ret2
    exact ⟨0, _, fun h => absurd h (by decide), rfl, rfl⟩
  · have e0 : (off + n).toNat - off.toNat = n.toNat := by omega
    rw [e0]
    go_ret2
    exact ⟨off.toNat, _, fun _ => rfl, rfl, rfl⟩

end Go.Proofs.YbulkarmeFmt
