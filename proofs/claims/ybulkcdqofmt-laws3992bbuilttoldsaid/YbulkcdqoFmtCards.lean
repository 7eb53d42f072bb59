/-
  DERIVED. GIVEN WITH THE SEED: THE CARDS: each row of YbulkcdqoFmtRows.lean that lists a variable, with what it lists TIED to the program's text (the seventh form; the later family's looks); each row that meets fmt, with fmt's text TOLD by the authors' own Lean function (tested against real Go, not proved from fmt's source: count such statements apart). THE CARD IS WHAT COUNTS. Prove the row's statement (the work); the ties are given (YbulkcdqoFmtTie.lean); close each card by the builder's one call (the guide's Derived/Test/ToyasCard.lean, 'card_holds'). Laid BY PROGRAM, IN A SANDBOX (cutbox-door.mjs). By AI agents, Wed Nov 11 2026. No macro, syntax, notation, axiom, sorry.
-/
import Derived.Test.YbulkcdqoFmtRows
import GoSem.ClaimSeven
namespace Go.Proofs.YbulkcdqoFmt
namespace Rows

/-- THE TOLD CARD OF 'mrz.LawS3992BAllowed'. -/
def lawS3992BAllowedCard : Claim7 := { stood := { row := lawS3992BAllowedRow, standIns := [], harness := (true, "50c07fd07ef6be1e3f239265e24e2682290d340f298e2e2d0efc1ef19e42a0eb"), looks := false }, told := true, goes := false }
def LawS3992BAllowedToldSaid : Prop := Claim7.holds Ybaf.pinned (.plain (OpenSpec.ofChange lawS3992BAllowedSpec)) lawS3992BAllowedCard
/-- ITS FALSE NEIGHBOUR. Refute it at one input. -/
def LawS3992BAllowedToldWrongFalsely : Prop := Claim7.holds Ybaf.pinned (.plain (OpenSpec.ofChange lawS3992BAllowedWrong)) lawS3992BAllowedCard

/-- THE TOLD CARD OF 'mrz.LawS3992BBuilt'. -/
def lawS3992BBuiltCard : Claim7 := { stood := { row := lawS3992BBuiltRow, standIns := [], harness := (true, "50c07fd07ef6be1e3f239265e24e2682290d340f298e2e2d0efc1ef19e42a0eb"), looks := false }, told := true, goes := false }
def LawS3992BBuiltToldSaid : Prop := Claim7.holds Ybaf.pinned (.plain (OpenSpec.ofChange lawS3992BBuiltSpec)) lawS3992BBuiltCard
/-- ITS FALSE NEIGHBOUR. Refute it at one input. -/
def LawS3992BBuiltToldWrongFalsely : Prop := Claim7.holds Ybaf.pinned (.plain (OpenSpec.ofChange lawS3992BBuiltWrong)) lawS3992BBuiltCard
end Rows
end Go.Proofs.YbulkcdqoFmt
