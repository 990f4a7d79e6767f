/-
  No cell of these rows narrows 'for every input' (looked for: loops, veiled, ifaces, maps, wideKeys, modest, calm, conditions, laid).
  DERIVED. THE GIVEN ROWS OF THIS SEAT. 2 by the template 'for every input the law returns true; each argument reads behind the call as it read before'; 0 by the template 'total and deterministic' (their statements: YbulkarmeFmtTotals.lean).
  GIVEN WITH THE SEED: the statements are not yours to turn. If you find one false, say at which input.
  Laid BY PROGRAM, IN A SANDBOX (cutbox-rows.mjs): the forced cells as the released guide's own fill.sh prints them over the translation 5a4e3e43fa95cfa5… (all of the seat's roots in one cut). By AI agents, Wed Nov 11 2026. No macro, syntax, notation, axiom, sorry.
-/
import Derived.Test.YbulkarmeFmtChecked
import GoSem.Claim
import GoSem.ClaimJoined
import GoSem.ClaimMapViews
import Derived.JoinedTies
import Derived.KernelRfl
namespace Go.Proofs.YbulkarmeFmt
/- THE CELL 'sum', in the pinned program and in every row, IS THE sha256 OF THE DUMP (.gsa) THAT YbulkarmeFmtProg.lean LOADS. Nothing in Lean hashes anything: it is a label: what it is worth is what the hold of that sum in a sandbox is worth. -/
noncomputable def Ybaf.pinned : Pinned := { name := "ybulkarmefmt", sum := "5a4e3e43fa95cfa5a2d0345faa14a91e25f394e54cc1e07542f4c7ba1f215ba6", checked := Ybaf.checked }
namespace Rows
def none {H : Type} : Left H := { results := [], args := [] }

/-- 'bearersift.LawS2149BSpec': WHATEVER THE INPUT: true; the input reads as it did. -/
def lawS2149BSpecSpec : ChangeSpec := { name := "lawS2149BSpec", fn := fun _ => fun
  | [d1, d2, d3] => { results := [.lit (.bool true)], args := [d1, d2, d3] }
  | _ => none }
def lawS2149BSpecRow : OpenClaim := { program := "ybulkarmefmt", sum := "5a4e3e43fa95cfa5a2d0345faa14a91e25f394e54cc1e07542f4c7ba1f215ba6", func := "example.com/bearersift/bearersift.LawS2149BSpec", spec := "lawS2149BSpec", stops := ["fmt.errorf"], inPlace := ["fmt.errorf"], apart := false }
/-- NO THEOREM (fmt's text is open here; it may be false): for the released tool's asking of the row's closed facts alone. THE STATEMENT IS 'LawS2149BSpecToldSaid' (YbulkarmeFmtCards.lean). -/
def LawS2149BSpecFormAsk : Prop := lawS2149BSpecRow.holds Ybaf.pinned (OpenSpec.ofChange lawS2149BSpecSpec)

/-- ITS FALSE NEIGHBOUR: 'it returns false'. Refute it at one input. -/
def lawS2149BSpecWrong : ChangeSpec := { name := "lawS2149BSpec", fn := fun _ => fun
  | [d1, d2, d3] => { results := [.lit (.bool false)], args := [d1, d2, d3] }
  | _ => none }
def LawS2149BSpecWrongFormAsk : Prop := lawS2149BSpecRow.holds Ybaf.pinned (OpenSpec.ofChange lawS2149BSpecWrong)

/-- 'bearersift.LawS2149BRoundTrip': WHATEVER THE INPUT: true; the input reads as it did. -/
def lawS2149BRoundTripSpec : ChangeSpec := { name := "lawS2149BRoundTrip", fn := fun _ => fun
  | [d1, d2, d3] => { results := [.lit (.bool true)], args := [d1, d2, d3] }
  | _ => none }
def lawS2149BRoundTripRow : OpenClaim := { program := "ybulkarmefmt", sum := "5a4e3e43fa95cfa5a2d0345faa14a91e25f394e54cc1e07542f4c7ba1f215ba6", func := "example.com/bearersift/bearersift.LawS2149BRoundTrip", spec := "lawS2149BRoundTrip", stops := ["fmt.errorf"], inPlace := ["fmt.errorf"], apart := false }
/-- NO THEOREM (fmt's text is open here; it may be false): for the released tool's asking of the row's closed facts alone. THE STATEMENT IS 'LawS2149BRoundTripToldSaid' (YbulkarmeFmtCards.lean). -/
def LawS2149BRoundTripFormAsk : Prop := lawS2149BRoundTripRow.holds Ybaf.pinned (OpenSpec.ofChange lawS2149BRoundTripSpec)

/-- ITS FALSE NEIGHBOUR: 'it returns false'. Refute it at one input. -/
def lawS2149BRoundTripWrong : ChangeSpec := { name := "lawS2149BRoundTrip", fn := fun _ => fun
  | [d1, d2, d3] => { results := [.lit (.bool false)], args := [d1, d2, d3] }
  | _ => none }
def LawS2149BRoundTripWrongFormAsk : Prop := lawS2149BRoundTripRow.holds Ybaf.pinned (OpenSpec.ofChange lawS2149BRoundTripWrong)

end Rows
end Go.Proofs.YbulkarmeFmt
