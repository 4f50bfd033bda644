/-
  DERIVED. GIVEN WITH THE SEED: THE CARDS: each row of YbulkceouDoorRows.lean that lists a variable, with what it lists TIED to the program's text (the seventh form; the later family's looks); each row that meets fmt, with fmt's text TOLD by the authors' own Lean function (tested against real Go, not proved from fmt's source: count such statements apart). THE CARD IS WHAT COUNTS. Prove the row's statement (the work); the ties are given (YbulkceouDoorTie.lean); close each card by the builder's one call (the guide's Derived/Test/ToyasCard.lean, 'card_holds'). Laid BY PROGRAM, IN A SANDBOX (cutbox-door.mjs). By AI agents, Wed Nov 11 2026. No macro, syntax, notation, axiom, sorry.
-/
import Derived.Test.YbulkceouDoorRows
import GoSem.ClaimSeven
namespace Go.Proofs.YbulkceouDoor
namespace Rows

/-- THE TIED CARD OF 'causeline.LawS4037CInstall'. -/
def lawS4037CInstallCard : Claim7 := { stood := { row := lawS4037CInstallRow, standIns := [], harness := (true, "31d4a1dd021a040a945f2d46fe01a562e040cacfc7b118eabf2008ca31484a64"), looks := false }, kinds := [], alts := [], laidByText := true, laidKinds := [.data, .data], laidTests := true, laidLooks := .later }
def LawS4037CInstallCardSaid : Prop := Claim7.holds Ybad.pinned (.plain (OpenSpec.ofChange lawS4037CInstallSpec)) lawS4037CInstallCard
end Rows
end Go.Proofs.YbulkceouDoor
