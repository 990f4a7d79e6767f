/-
  DERIVED. THE CLOSED FACTS FOR A WALK OVER fmt's STOPPED FRONT, at this dump's numbers (after the guide's CheckFmt.lean).
-/
import Derived.Test.YbulkarmeFmtRows
import Derived.Stop.CallBack
import Derived.Stop.IfaceNil
import GoSem.ClaimData
import Derived.WalkKit
namespace Go.Proofs.YbulkarmeFmt
open Go.RowKit Go.Extern.Stop Go.Stop Go.Extern

theorem Ybaf.call8 (args : Array Value) (w : World) : (callFunc 8 args).run Ybaf.prog w = ((FmtStop.errorf #[9, 41] #[32] args).run Ybaf.prog w).andThen fun v w' => .ok (.value v) w' :=
  run_callFunc_extern Ybaf.func8 (by kernel_rfl) (by kernel_rfl) (by kernel_rfl) (by kernel_rfl) args w
theorem Ybaf.guard (name : String) (w : World) : (FmtStop.guard name).run Ybaf.prog w = .ok () w := by kernel_rfl
theorem Ybaf.fmt0 : FmtStop.printed? ⟨#[37, 115, 32, 101, 110, 100, 115, 32, 97, 116, 32, 111, 99, 116, 101, 116, 32, 37, 100, 44, 32, 98, 101, 102, 111, 114, 101, 32, 111, 99, 116, 101, 116, 32, 37, 100]⟩ 3 = some [(0, 115, false), (1, 100, false), (2, 100, false)] := by kernel_rfl
theorem Ybaf.fmt0r (w : World) : (FmtDoors.printed ⟨#[37, 115, 32, 101, 110, 100, 115, 32, 97, 116, 32, 111, 99, 116, 101, 116, 32, 37, 100, 44, 32, 98, 101, 102, 111, 114, 101, 32, 111, 99, 116, 101, 116, 32, 37, 100]⟩ 3).run Ybaf.prog w = .ok [(0, 115, false), (1, 100, false), (2, 100, false)] w := by kernel_rfl
def Ybaf.shape9 : List UInt8 := [12, 6, 0, 0, 0, 0, 0, 0, 0, 115, 116, 114, 105, 110, 103]
theorem Ybaf.op9_115 (name : String) (x : ByteArray) (w : World) : (FmtStop.operand name false 115 false (.iface 9 (.string x))).run Ybaf.prog w = .ok (Ybaf.shape9, FmtStop.pack x.data.toList) w := by kernel_rfl
theorem Ybaf.op9_115w (name : String) (x : ByteArray) (w : World) : (FmtStop.operand name true 115 false (.iface 9 (.string x))).run Ybaf.prog w = .ok (Ybaf.shape9, FmtStop.pack x.data.toList) w := by kernel_rfl
def Ybaf.shape3 : List UInt8 := [5, 3, 0, 0, 0, 0, 0, 0, 0, 105, 110, 116]
theorem Ybaf.op3_100 (name : String) (x : Int) (w : World) : (FmtStop.operand name false 100 false (.iface 3 (.int .i64 x))).run Ybaf.prog w = .ok (Ybaf.shape3, Go.Extern.Stop.digits 8 (x % 2 ^ 64).toNat) w := by kernel_rfl
theorem Ybaf.op3_100w (name : String) (x : Int) (w : World) : (FmtStop.operand name true 100 false (.iface 3 (.int .i64 x))).run Ybaf.prog w = .ok (Ybaf.shape3, Go.Extern.Stop.digits 8 (x % 2 ^ 64).toNat) w := by kernel_rfl
theorem Ybaf.ptr44 (w : World) : (FmtStop.ptrTo "errors.errorString").run Ybaf.prog w = .ok 44 w := by kernel_rfl
theorem Ybaf.elem44 (w : World) : (elemOf 44).run Ybaf.prog w = .ok 46 w := by kernel_rfl
theorem Ybaf.isError44 (w : World) : (FmtDoors.textMethod 44 "Error").run Ybaf.prog w = .ok true w := by kernel_rfl

attribute [local go_sem] Ybaf.call8 Ybaf.guard Ybaf.fmt0 Ybaf.fmt0r Ybaf.op9_115 Ybaf.op9_115w Ybaf.op3_100 Ybaf.op3_100w Ybaf.ptr44 Ybaf.elem44 Ybaf.isError44

/-- fmt.Errorf at take's format, by its contract: a new error; one block; one draw. Its text is whatever F gives. -/
theorem errorf_take (F : Interp) (s : ByteArray) (x y : Int) (blk : Nat) (w : World) (hF : F.answers w.tape)
    (hc0 : w.cell? ⟨blk, 0, none⟩ = some (.iface 9 (.string s))) (hc1 : w.cell? ⟨blk, 1, none⟩ = some (.iface 3 (.int .i64 x))) (hc2 : w.cell? ⟨blk, 2, none⟩ = some (.iface 3 (.int .i64 y))) :
    Calls Ybaf.prog 7 #[.string ⟨#[37, 115, 32, 101, 110, 100, 115, 32, 97, 116, 32, 111, 99, 116, 101, 116, 32, 37, 100, 44, 32, 98, 101, 102, 111, 114, 101, 32, 111, 99, 116, 101, 116, 32, 37, 100]⟩, .slice (some ⟨blk, 0, none⟩) 3 3] w fun e w' =>
      e = .returned (.iface 44 (.pointer (some ⟨w.heap.size, 0, none⟩))) ∧ ∃ t, w' = (w.alloc (.cells #[.string t] 46)).drew := by
  unfold Interp.answers at hF
  go_enter Ybaf.func7, Ybaf.ntmps7
  go_wp2
  go_ret
  exact ⟨rfl, _, rfl⟩

/-- The same, the three operands in the block that has just been laid. -/
theorem errorf_take' (F : Interp) (s : ByteArray) (x y : Int) (blk : Nat) (W : World) (hF : F.answers W.tape) (hb : W.heap.size = blk) :
    Calls Ybaf.prog 7 #[.string ⟨#[37, 115, 32, 101, 110, 100, 115, 32, 97, 116, 32, 111, 99, 116, 101, 116, 32, 37, 100, 44, 32, 98, 101, 102, 111, 114, 101, 32, 111, 99, 116, 101, 116, 32, 37, 100]⟩, .slice (some ⟨blk, 0, none⟩) 3 3]
      (W.alloc (.cells #[.iface 9 (.string s), .iface 3 (.int .i64 x), .iface 3 (.int .i64 y)] 20)) fun e w' =>
      e = .returned (.iface 44 (.pointer (some ⟨blk + 1, 0, none⟩))) ∧ ∃ t, w' = ((W.alloc (.cells #[.iface 9 (.string s), .iface 3 (.int .i64 x), .iface 3 (.int .i64 y)] 20)).alloc (.cells #[.string t] 46)).drew := by
  subst hb
  refine (errorf_take F s x y W.heap.size (W.alloc (.cells #[.iface 9 (.string s), .iface 3 (.int .i64 x), .iface 3 (.int .i64 y)] 20)) hF (by go_simp) (by go_simp) (by go_simp)).mono ?_
  rintro e w' ⟨rfl, t, rfl⟩
  exact ⟨by simp, t, rfl⟩

end Go.Proofs.YbulkarmeFmt
