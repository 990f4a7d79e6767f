import Derived.Test.YbulkaroiDoorGroup
import Derived.Laws.BytesArg
set_option linter.unusedVariables false
namespace Go.Proofs.YbulkaroiDoor
open Go.RowKit Go.Deep

/-- What 'string(b)' gives for a slice whose bytes are d: a function of d alone. -/
def bstr (d : List Int) : ByteArray := d.foldl (fun r n => r.push (UInt8.ofNat n.toNat)) ByteArray.empty

theorem conv_src {w : World} {p : Option Addr} {d : List Int} (h : SrcOk w p d) (k : Nat) : (convert 27 9 (.slice p d.length k)).run Ybad.prog w = .ok (.string (bstr d)) w := by
  cases p with
  | none =>
    obtain rfl := h.1 rfl
    exact run_convert_bytes_nil w 27 5 Ybad.underlying27 Ybad.underlying5 0 k 9 Ybad.underlying9
  | some ad =>
    have hl := run_loadCells_list (P := Ybad.prog) w ad (d.map u8) (h.2 ad rfl).2
    rw [List.length_map] at hl
    rw [run_convert_bytes_string w 27 9 5 _ _ k Ybad.underlying27 Ybad.underlying5 Ybad.underlying9, run_bytesToString w ad d.length k d hl]
    rfl

set_option maxHeartbeats 400000 in
theorem bytesEqual_calls (p q : Option Addr) (k l : Nat) (d : List Int) (w : World) (hp : SrcOk w p d) (hq : SrcOk w q d) :
    Calls Ybad.prog 14 #[.slice p d.length k, .slice q d.length l] w fun e w' => e = .returned (.bool true) ∧ w' = w := by
  have c1 := conv_src hp k
  have c2 := conv_src hq l
  go_enter Ybad.func14, Ybad.ntmps14
  go_wp2_with fail
  go_ret
  exact ⟨rfl, rfl⟩

set_option maxHeartbeats 400000 in
theorem eq_calls (x : Avp) (p q : Option Addr) (k l : Nat) (w : World) (hp : SrcOk w p x.d) (hq : SrcOk w q x.d) :
    Calls Ybad.prog 12 #[.agg #[.int .u32 x.c, .int .u8 x.f, .int .u32 x.v, .slice p x.d.length k], .agg #[.int .u32 x.c, .int .u8 x.f, .int .u32 x.v, .slice q x.d.length l]] w fun e w' => e = .returned (.bool true) ∧ Below w.heap.size w w' := by
  have B2 : ∀ o o' : Obj, Below w.heap.size w ((w.alloc o).alloc o') := fun o o' => ((Below.refl _ _).alloc (Nat.le_refl _) _).alloc (by simp) _
  go_enter Ybad.func12, Ybad.ntmps12
  go_wp2_with fail
  refine (bytesEqual_calls p q k l x.d _ (hp.later (B2 _ _)) (hq.later (B2 _ _))).mono ?_
  rintro e w' ⟨rfl, rfl⟩
  go_wp2_with fail
  go_ret
  exact ⟨rfl, B2 _ _⟩

end Go.Proofs.YbulkaroiDoor
