/-
  No cell of these rows narrows 'for every input' (looked for: loops, veiled, ifaces, maps, wideKeys, modest, calm, conditions, laid).
  DERIVED. THE GIVEN ROWS OF THIS SEAT. 2 by the template 'for every input the law returns true; each argument reads behind the call as it read before'; 0 by the template 'total and deterministic' (their statements: YbulkaroiTotals.lean).
  GIVEN WITH THE SEED: the statements are not yours to turn. If you find one false, say at which input.
  Laid BY PROGRAM, IN A SANDBOX (cutbox-rows.mjs): the forced cells as the released guide's own fill.sh prints them over the translation 7606678115858313… (all of the seat's roots in one cut). By AI agents, Wed Nov 11 2026. No macro, syntax, notation, axiom, sorry.
-/
import Derived.Test.YbulkaroiChecked
import GoSem.Claim
import GoSem.ClaimJoined
import GoSem.ClaimMapViews
import Derived.JoinedTies
import Derived.KernelRfl
namespace Go.Proofs.Ybulkaroi
/- THE CELL 'sum', in the pinned program and in every row, IS THE sha256 OF THE DUMP (.gsa) THAT YbulkaroiProg.lean LOADS. Nothing in Lean hashes anything: it is a label: what it is worth is what the hold of that sum in a sandbox is worth. -/
noncomputable def Yba.pinned : Pinned := { name := "ybulkaroi", sum := "7606678115858313adf2d4a3be63b03c45952d57f0665cb705b5d19fd6ca0f82", checked := Yba.checked }
namespace Rows
def none {H : Type} : Left H := { results := [], args := [] }

/-- 'pcrf.LawS2153AAgree': WHATEVER THE INPUT: true; the input reads as it did. -/
def lawS2153AAgreeSpec : ChangeSpec := { name := "lawS2153AAgree", fn := fun _ => fun
  | [d1, d2] => { results := [.lit (.bool true)], args := [d1, d2] }
  | _ => none }
def lawS2153AAgreeRow : OpenClaim := { program := "ybulkaroi", sum := "7606678115858313adf2d4a3be63b03c45952d57f0665cb705b5d19fd6ca0f82", func := "example.com/bearerward/bearerward/internal/pcrf.LawS2153AAgree", spec := "lawS2153AAgree", inPlace := ["(*internal/sync.Mutex).Lock", "internal/race.Disable", "sync/atomic.CompareAndSwapInt32", "internal/race.Enable", "internal/race.Acquire", "(*internal/sync.Mutex).lockSlow", "internal/sync.runtime_canSpin", "internal/sync.runtime_doSpin", "internal/sync.throw", "internal/sync.runtime_nanotime", "internal/sync.runtime_SemacquireMutex", "sync/atomic.AddInt32", "(*internal/sync.Mutex).Unlock", "internal/race.ReleaseMerge", "(*internal/sync.Mutex).unlockSlow", "internal/sync.fatal", "internal/sync.runtime_Semrelease"], plainKeys := false, apart := false }
def LawS2153AAgreeSaid : Prop := lawS2153AAgreeRow.holds Yba.pinned (OpenSpec.ofChange lawS2153AAgreeSpec)

/-- ITS FALSE NEIGHBOUR: 'it returns false'. Refute it at one input. -/
def lawS2153AAgreeWrong : ChangeSpec := { name := "lawS2153AAgree", fn := fun _ => fun
  | [d1, d2] => { results := [.lit (.bool false)], args := [d1, d2] }
  | _ => none }
def LawS2153AAgreeWrongFalsely : Prop := lawS2153AAgreeRow.holds Yba.pinned (OpenSpec.ofChange lawS2153AAgreeWrong)

/-- 'pcrf.LawS2153AEmpty': WHATEVER THE INPUT: true; the input reads as it did. -/
def lawS2153AEmptySpec : ChangeSpec := { name := "lawS2153AEmpty", fn := fun _ => fun
  | [d] => { results := [.lit (.bool true)], args := [d] }
  | _ => none }
def lawS2153AEmptyRow : OpenClaim := { program := "ybulkaroi", sum := "7606678115858313adf2d4a3be63b03c45952d57f0665cb705b5d19fd6ca0f82", func := "example.com/bearerward/bearerward/internal/pcrf.LawS2153AEmpty", spec := "lawS2153AEmpty", inPlace := ["(*internal/sync.Mutex).Lock", "internal/race.Disable", "sync/atomic.CompareAndSwapInt32", "internal/race.Enable", "internal/race.Acquire", "(*internal/sync.Mutex).lockSlow", "internal/sync.runtime_canSpin", "internal/sync.runtime_doSpin", "internal/sync.throw", "internal/sync.runtime_nanotime", "internal/sync.runtime_SemacquireMutex", "sync/atomic.AddInt32", "(*internal/sync.Mutex).Unlock", "internal/race.ReleaseMerge", "(*internal/sync.Mutex).unlockSlow", "internal/sync.fatal", "internal/sync.runtime_Semrelease"], plainKeys := false, apart := false }
def LawS2153AEmptySaid : Prop := lawS2153AEmptyRow.holds Yba.pinned (OpenSpec.ofChange lawS2153AEmptySpec)

/-- ITS FALSE NEIGHBOUR: 'it returns false'. Refute it at one input. -/
def lawS2153AEmptyWrong : ChangeSpec := { name := "lawS2153AEmpty", fn := fun _ => fun
  | [d] => { results := [.lit (.bool false)], args := [d] }
  | _ => none }
def LawS2153AEmptyWrongFalsely : Prop := lawS2153AEmptyRow.holds Yba.pinned (OpenSpec.ofChange lawS2153AEmptyWrong)

end Rows
end Go.Proofs.Ybulkaroi
