/-
  DERIVED. GIVEN WITH THE SEED: THE CARDS: each row of YbulkarmeFmtRows.lean that lists a variable, with what it lists TIED to the program's text (the seventh form; the later family's looks); each row that meets fmt, with fmt's text TOLD by the authors' own Lean function (tested against real Go, not proved from fmt's source: count such statements apart). THE CARD IS WHAT COUNTS. Prove the row's statement (the work); the ties are given (YbulkarmeFmtTie.lean); close each card by the builder's one call (the guide's Derived/Test/ToyasCard.lean, 'card_holds'). Laid BY PROGRAM, IN A SANDBOX (cutbox-door.mjs). By AI agents, Wed Nov 11 2026. No macro, syntax, notation, axiom, sorry.
-/
import Derived.Test.YbulkarmeFmtRows
import GoSem.ClaimSeven
namespace Go.Proofs.YbulkarmeFmt
namespace Rows

/-- THE TOLD CARD OF 'bearersift.LawS2149BSpec'. -/
def lawS2149BSpecCard : Claim7 := { stood := { row := lawS2149BSpecRow, standIns := [], harness := (true, "0f34d321b7d449da50047b0a00704ff3fcbf1acfd1b611da16356a1f7f79f3c3"), looks := false }, told := true, goes := false }
def LawS2149BSpecToldSaid : Prop := Claim7.holds Ybaf.pinned (.plain (OpenSpec.ofChange lawS2149BSpecSpec)) lawS2149BSpecCard
/-- ITS FALSE NEIGHBOUR. Refute it at one input. -/
def LawS2149BSpecToldWrongFalsely : Prop := Claim7.holds Ybaf.pinned (.plain (OpenSpec.ofChange lawS2149BSpecWrong)) lawS2149BSpecCard

/-- THE TOLD CARD OF 'bearersift.LawS2149BRoundTrip'. -/
def lawS2149BRoundTripCard : Claim7 := { stood := { row := lawS2149BRoundTripRow, standIns := [], harness := (true, "0f34d321b7d449da50047b0a00704ff3fcbf1acfd1b611da16356a1f7f79f3c3"), looks := false }, told := true, goes := false }
def LawS2149BRoundTripToldSaid : Prop := Claim7.holds Ybaf.pinned (.plain (OpenSpec.ofChange lawS2149BRoundTripSpec)) lawS2149BRoundTripCard
/-- ITS FALSE NEIGHBOUR. Refute it at one input. -/
def LawS2149BRoundTripToldWrongFalsely : Prop := Claim7.holds Ybaf.pinned (.plain (OpenSpec.ofChange lawS2149BRoundTripWrong)) lawS2149BRoundTripCard
end Rows
end Go.Proofs.YbulkarmeFmt
