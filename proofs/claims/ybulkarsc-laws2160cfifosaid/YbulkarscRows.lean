/-
  No cell of these rows narrows 'for every input' (looked for: loops, veiled, ifaces, maps, wideKeys, modest, calm, conditions, laid).
  DERIVED. THE GIVEN ROWS OF THIS SEAT. 6 by the template 'for every input the law returns true; each argument reads behind the call as it read before'; 0 by the template 'total and deterministic' (their statements: YbulkarscTotals.lean).
  GIVEN WITH THE SEED: the statements are not yours to turn. If you find one false, say at which input.
  Laid BY PROGRAM, IN A SANDBOX (cutbox-rows.mjs): the forced cells as the released guide's own fill.sh prints them over the translation 4f7dcb73763e04b2… (all of the seat's roots in one cut). By AI agents, Wed Nov 11 2026. No macro, syntax, notation, axiom, sorry.
-/
import Derived.Test.YbulkarscChecked
import GoSem.Claim
import GoSem.ClaimJoined
import GoSem.ClaimMapViews
import Derived.JoinedTies
import Derived.KernelRfl
namespace Go.Proofs.Ybulkarsc
/- THE CELL 'sum', in the pinned program and in every row, IS THE sha256 OF THE DUMP (.gsa) THAT YbulkarscProg.lean LOADS. Nothing in Lean hashes anything: it is a label: what it is worth is what the hold of that sum in a sandbox is worth. -/
noncomputable def Yba.pinned : Pinned := { name := "ybulkarsc", sum := "4f7dcb73763e04b2d50689d949772f3c2c6bd4520c0544b65b77e7197c391010", checked := Yba.checked }
namespace Rows
def none {H : Type} : Left H := { results := [], args := [] }

/-- 'runqueue.LawS2160ATakesFailure': WHATEVER THE INPUT: true; the input reads as it did. -/
def lawS2160ATakesFailureSpec : ChangeSpec := { name := "lawS2160ATakesFailure", fn := fun _ => fun
  | [d1, d2, d3] => { results := [.lit (.bool true)], args := [d1, d2, d3] }
  | _ => none }
def lawS2160ATakesFailureRow : OpenClaim := { program := "ybulkarsc", sum := "4f7dcb73763e04b2d50689d949772f3c2c6bd4520c0544b65b77e7197c391010", func := "example.com/runqueue/runqueue.LawS2160ATakesFailure", spec := "lawS2160ATakesFailure", inPlace := ["(*internal/sync.Mutex).Lock", "internal/race.Disable", "sync/atomic.CompareAndSwapInt32", "internal/race.Enable", "internal/race.Acquire", "(*internal/sync.Mutex).lockSlow", "internal/sync.runtime_canSpin", "internal/sync.runtime_doSpin", "internal/sync.throw", "internal/sync.runtime_nanotime", "internal/sync.runtime_SemacquireMutex", "sync/atomic.AddInt32", "(*internal/sync.Mutex).Unlock", "internal/race.ReleaseMerge", "(*internal/sync.Mutex).unlockSlow", "internal/sync.fatal", "internal/sync.runtime_Semrelease", "sync/atomic.LoadUint64", "(*sync.Cond).Wait", "(*sync.copyChecker).check", "sync.runtime_notifyListAdd", "internal/race.Read", "sync.runtime_notifyListWait", "(*internal/sync.Mutex).TryLock"], unfollowed := true, recurses := true, apart := false }
def LawS2160ATakesFailureSaid : Prop := lawS2160ATakesFailureRow.holds Yba.pinned (OpenSpec.ofChange lawS2160ATakesFailureSpec)

/-- ITS FALSE NEIGHBOUR: 'it returns false'. Refute it at one input. -/
def lawS2160ATakesFailureWrong : ChangeSpec := { name := "lawS2160ATakesFailure", fn := fun _ => fun
  | [d1, d2, d3] => { results := [.lit (.bool false)], args := [d1, d2, d3] }
  | _ => none }
def LawS2160ATakesFailureWrongFalsely : Prop := lawS2160ATakesFailureRow.holds Yba.pinned (OpenSpec.ofChange lawS2160ATakesFailureWrong)

/-- 'runqueue.LawS2160ASecondNil': WHATEVER THE INPUT: true; the input reads as it did. -/
def lawS2160ASecondNilSpec : ChangeSpec := { name := "lawS2160ASecondNil", fn := fun _ => fun
  | [d1, d2] => { results := [.lit (.bool true)], args := [d1, d2] }
  | _ => none }
def lawS2160ASecondNilRow : OpenClaim := { program := "ybulkarsc", sum := "4f7dcb73763e04b2d50689d949772f3c2c6bd4520c0544b65b77e7197c391010", func := "example.com/runqueue/runqueue.LawS2160ASecondNil", spec := "lawS2160ASecondNil", inPlace := ["(*internal/sync.Mutex).Lock", "internal/race.Disable", "sync/atomic.CompareAndSwapInt32", "internal/race.Enable", "internal/race.Acquire", "(*internal/sync.Mutex).lockSlow", "internal/sync.runtime_canSpin", "internal/sync.runtime_doSpin", "internal/sync.throw", "internal/sync.runtime_nanotime", "internal/sync.runtime_SemacquireMutex", "sync/atomic.AddInt32", "(*internal/sync.Mutex).Unlock", "internal/race.ReleaseMerge", "(*internal/sync.Mutex).unlockSlow", "internal/sync.fatal", "internal/sync.runtime_Semrelease", "sync/atomic.LoadUint64", "(*sync.Cond).Wait", "(*sync.copyChecker).check", "sync.runtime_notifyListAdd", "internal/race.Read", "sync.runtime_notifyListWait"], unfollowed := true, recurses := true, apart := false }
def LawS2160ASecondNilSaid : Prop := lawS2160ASecondNilRow.holds Yba.pinned (OpenSpec.ofChange lawS2160ASecondNilSpec)

/-- ITS FALSE NEIGHBOUR: 'it returns false'. Refute it at one input. -/
def lawS2160ASecondNilWrong : ChangeSpec := { name := "lawS2160ASecondNil", fn := fun _ => fun
  | [d1, d2] => { results := [.lit (.bool false)], args := [d1, d2] }
  | _ => none }
def LawS2160ASecondNilWrongFalsely : Prop := lawS2160ASecondNilRow.holds Yba.pinned (OpenSpec.ofChange lawS2160ASecondNilWrong)

/-- 'runqueue.LawS2160BTake': WHATEVER THE INPUT: true; the input reads as it did. -/
def lawS2160BTakeSpec : ChangeSpec := { name := "lawS2160BTake", fn := fun _ => fun
  | [d1, d2, d3] => { results := [.lit (.bool true)], args := [d1, d2, d3] }
  | _ => none }
def lawS2160BTakeRow : OpenClaim := { program := "ybulkarsc", sum := "4f7dcb73763e04b2d50689d949772f3c2c6bd4520c0544b65b77e7197c391010", func := "example.com/runqueue/runqueue.LawS2160BTake", spec := "lawS2160BTake", unfollowed := true, recurses := true, apart := false }
def LawS2160BTakeSaid : Prop := lawS2160BTakeRow.holds Yba.pinned (OpenSpec.ofChange lawS2160BTakeSpec)

/-- ITS FALSE NEIGHBOUR: 'it returns false'. Refute it at one input. -/
def lawS2160BTakeWrong : ChangeSpec := { name := "lawS2160BTake", fn := fun _ => fun
  | [d1, d2, d3] => { results := [.lit (.bool false)], args := [d1, d2, d3] }
  | _ => none }
def LawS2160BTakeWrongFalsely : Prop := lawS2160BTakeRow.holds Yba.pinned (OpenSpec.ofChange lawS2160BTakeWrong)

/-- 'runqueue.LawS2160BPart': WHATEVER THE INPUT: true; the input reads as it did. -/
def lawS2160BPartSpec : ChangeSpec := { name := "lawS2160BPart", fn := fun _ => fun
  | [d1, d2, d3, d4] => { results := [.lit (.bool true)], args := [d1, d2, d3, d4] }
  | _ => none }
def lawS2160BPartRow : OpenClaim := { program := "ybulkarsc", sum := "4f7dcb73763e04b2d50689d949772f3c2c6bd4520c0544b65b77e7197c391010", func := "example.com/runqueue/runqueue.LawS2160BPart", spec := "lawS2160BPart", unfollowed := true, recurses := true, apart := false }
def LawS2160BPartSaid : Prop := lawS2160BPartRow.holds Yba.pinned (OpenSpec.ofChange lawS2160BPartSpec)

/-- ITS FALSE NEIGHBOUR: 'it returns false'. Refute it at one input. -/
def lawS2160BPartWrong : ChangeSpec := { name := "lawS2160BPart", fn := fun _ => fun
  | [d1, d2, d3, d4] => { results := [.lit (.bool false)], args := [d1, d2, d3, d4] }
  | _ => none }
def LawS2160BPartWrongFalsely : Prop := lawS2160BPartRow.holds Yba.pinned (OpenSpec.ofChange lawS2160BPartWrong)

/-- 'runqueue.LawS2160CFifo': WHATEVER THE INPUT: true; the input reads as it did. -/
def lawS2160CFifoSpec : ChangeSpec := { name := "lawS2160CFifo", fn := fun _ => fun
  | [d] => { results := [.lit (.bool true)], args := [d] }
  | _ => none }
def lawS2160CFifoRow : OpenClaim := { program := "ybulkarsc", sum := "4f7dcb73763e04b2d50689d949772f3c2c6bd4520c0544b65b77e7197c391010", func := "example.com/runqueue/runqueue.LawS2160CFifo", spec := "lawS2160CFifo", unfollowed := true, recurses := true, apart := false }
def LawS2160CFifoSaid : Prop := lawS2160CFifoRow.holds Yba.pinned (OpenSpec.ofChange lawS2160CFifoSpec)

/-- ITS FALSE NEIGHBOUR: 'it returns false'. Refute it at one input. -/
def lawS2160CFifoWrong : ChangeSpec := { name := "lawS2160CFifo", fn := fun _ => fun
  | [d] => { results := [.lit (.bool false)], args := [d] }
  | _ => none }
def LawS2160CFifoWrongFalsely : Prop := lawS2160CFifoRow.holds Yba.pinned (OpenSpec.ofChange lawS2160CFifoWrong)

/-- 'runqueue.LawS2160CEmpty': WHATEVER THE INPUT: true; the input reads as it did. -/
def lawS2160CEmptySpec : ChangeSpec := { name := "lawS2160CEmpty", fn := fun _ => fun
  | [d] => { results := [.lit (.bool true)], args := [d] }
  | _ => none }
def lawS2160CEmptyRow : OpenClaim := { program := "ybulkarsc", sum := "4f7dcb73763e04b2d50689d949772f3c2c6bd4520c0544b65b77e7197c391010", func := "example.com/runqueue/runqueue.LawS2160CEmpty", spec := "lawS2160CEmpty", apart := false }
def LawS2160CEmptySaid : Prop := lawS2160CEmptyRow.holds Yba.pinned (OpenSpec.ofChange lawS2160CEmptySpec)

/-- ITS FALSE NEIGHBOUR: 'it returns false'. Refute it at one input. -/
def lawS2160CEmptyWrong : ChangeSpec := { name := "lawS2160CEmpty", fn := fun _ => fun
  | [d] => { results := [.lit (.bool false)], args := [d] }
  | _ => none }
def LawS2160CEmptyWrongFalsely : Prop := lawS2160CEmptyRow.holds Yba.pinned (OpenSpec.ofChange lawS2160CEmptyWrong)

end Rows
end Go.Proofs.Ybulkarsc
