/-
  DERIVED. GIVEN WITH THE SEED: THE CARDS: each row of YbulkaroiDoorRows.lean that lists a variable, with what it lists TIED to the program's text (the seventh form; the later family's looks); each row that meets fmt, with fmt's text TOLD by the authors' own Lean function (tested against real Go, not proved from fmt's source: count such statements apart). THE CARD IS WHAT COUNTS. Prove the row's statement (the work); the ties are given (YbulkaroiDoorTie.lean); close each card by the builder's one call (the guide's Derived/Test/ToyasCard.lean, 'card_holds'). Laid BY PROGRAM, IN A SANDBOX (cutbox-door.mjs). By AI agents, Wed Nov 11 2026. No macro, syntax, notation, axiom, sorry.
-/
import Derived.Test.YbulkaroiDoorRows
import GoSem.ClaimSeven
namespace Go.Proofs.YbulkaroiDoor
namespace Rows

/-- THE TIED CARD OF 'pcrf.LawS2153BAgrees'. -/
def lawS2153BAgreesCard : Claim7 := { stood := { row := lawS2153BAgreesRow, standIns := [], harness := (true, "aa30202ffe238b073aa2e3647f67f683a70a9f56c2474277acb2abacf8a81b07"), looks := false }, kinds := [], alts := [], laidByText := true, laidKinds := [.wider, .wider, .wider, .wider, .wider, .data, .data, .wider, .wider, .wider, .wider, .wider, .data, .data, .wider, .wider, .wider, .wider, .wider, .wider, .wider, .wider], laidTests := true, laidLooks := .later }
def LawS2153BAgreesCardSaid : Prop := Claim7.holds Ybad.pinned (.plain (OpenSpec.ofChange lawS2153BAgreesSpec)) lawS2153BAgreesCard

/-- THE TIED CARD OF 'pcrf.LawS2153BSplits'. -/
def lawS2153BSplitsCard : Claim7 := { stood := { row := lawS2153BSplitsRow, standIns := [], harness := (true, "aa30202ffe238b073aa2e3647f67f683a70a9f56c2474277acb2abacf8a81b07"), looks := false }, kinds := [], alts := [], laidByText := true, laidKinds := [.wider, .wider, .wider, .wider, .wider, .data, .data, .wider, .wider, .wider, .wider, .wider, .data, .data, .wider, .wider, .wider, .wider, .wider, .wider, .wider, .wider], laidTests := true, laidLooks := .later }
def LawS2153BSplitsCardSaid : Prop := Claim7.holds Ybad.pinned (.plain (OpenSpec.ofChange lawS2153BSplitsSpec)) lawS2153BSplitsCard
end Rows
end Go.Proofs.YbulkaroiDoor
