/-
  DERIVED. GIVEN WITH THE SEED: THE CARDS: each row of YbulkcdqaDoorRows.lean that lists a variable, with what it lists TIED to the program's text (the seventh form; the later family's looks); each row that meets fmt, with fmt's text TOLD by the authors' own Lean function (tested against real Go, not proved from fmt's source: count such statements apart). THE CARD IS WHAT COUNTS. Prove the row's statement (the work); the ties are given (YbulkcdqaDoorTie.lean); close each card by the builder's one call (the guide's Derived/Test/ToyasCard.lean, 'card_holds'). Laid BY PROGRAM, IN A SANDBOX (cutbox-door.mjs). By AI agents, Wed Nov 11 2026. No macro, syntax, notation, axiom, sorry.
-/
import Derived.Test.YbulkcdqaDoorRows
import GoSem.ClaimSeven
namespace Go.Proofs.YbulkcdqaDoor
namespace Rows

/-- THE TIED CARD OF 'stratalog.LawS3991BExact'. -/
def lawS3991BExactCard : Claim7 := { stood := { row := lawS3991BExactRow, standIns := [], harness := (true, "9503414951e3f7c2ebd134117d1e8a84fe8cc250662c30fbfdc52d07ccbdcc58"), looks := true }, kinds := [], alts := [], laidByText := true, laidKinds := [.sentinel, .sentinel, .sentinel], laidTests := true, laidLooks := .later }
def LawS3991BExactCardSaid : Prop := Claim7.holds Ybad.pinned (.plain (OpenSpec.ofChange lawS3991BExactSpec)) lawS3991BExactCard

/-- THE TIED CARD OF 'stratalog.LawS3991BAccept'. -/
def lawS3991BAcceptCard : Claim7 := { stood := { row := lawS3991BAcceptRow, standIns := [], harness := (true, "9503414951e3f7c2ebd134117d1e8a84fe8cc250662c30fbfdc52d07ccbdcc58"), looks := true }, kinds := [], alts := [], laidByText := true, laidKinds := [.sentinel, .sentinel, .sentinel], laidTests := true, laidLooks := .later }
def LawS3991BAcceptCardSaid : Prop := Claim7.holds Ybad.pinned (.plain (OpenSpec.ofChange lawS3991BAcceptSpec)) lawS3991BAcceptCard
end Rows
end Go.Proofs.YbulkcdqaDoor
