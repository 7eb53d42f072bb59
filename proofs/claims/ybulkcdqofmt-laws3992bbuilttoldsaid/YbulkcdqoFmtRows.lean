/-
  No cell of these rows narrows 'for every input' (looked for: loops, veiled, ifaces, maps, wideKeys, modest, calm, conditions, laid).
  DERIVED. THE GIVEN ROWS OF THIS SEAT. 2 by the template 'for every input the law returns true; each argument reads behind the call as it read before'; 0 by the template 'total and deterministic' (their statements: YbulkcdqoFmtTotals.lean).
  GIVEN WITH THE SEED: the statements are not yours to turn. If you find one false, say at which input.
  Laid BY PROGRAM, IN A SANDBOX (cutbox-rows.mjs): the forced cells as the released guide's own fill.sh prints them over the translation db8a1074b2014cfa… (all of the seat's roots in one cut). By AI agents, Wed Nov 11 2026. No macro, syntax, notation, axiom, sorry.
-/
import Derived.Test.YbulkcdqoFmtChecked
import GoSem.Claim
import GoSem.ClaimJoined
import GoSem.ClaimMapViews
import Derived.JoinedTies
import Derived.KernelRfl
namespace Go.Proofs.YbulkcdqoFmt
/- THE CELL 'sum', in the pinned program and in every row, IS THE sha256 OF THE DUMP (.gsa) THAT YbulkcdqoFmtProg.lean LOADS. Nothing in Lean hashes anything: it is a label: what it is worth is what the hold of that sum in a sandbox is worth. -/
noncomputable def Ybaf.pinned : Pinned := { name := "ybulkcdqofmt", sum := "db8a1074b2014cfa9a7099c3e44799ce94ba305f62cd0fa165ec5420a5bffb83", checked := Ybaf.checked }
namespace Rows
def none {H : Type} : Left H := { results := [], args := [] }

/-- 'mrz.LawS3992BAllowed': WHATEVER THE INPUT: true; the input reads as it did. -/
def lawS3992BAllowedSpec : ChangeSpec := { name := "lawS3992BAllowed", fn := fun _ => fun
  | [d] => { results := [.lit (.bool true)], args := [d] }
  | _ => none }
def lawS3992BAllowedRow : OpenClaim := { program := "ybulkcdqofmt", sum := "db8a1074b2014cfa9a7099c3e44799ce94ba305f62cd0fa165ec5420a5bffb83", func := "example.com/portcullis/portcullis/mrz.LawS3992BAllowed", spec := "lawS3992BAllowed", stops := ["fmt.errorf"], inPlace := ["fmt.errorf"], apart := false }
/-- NO THEOREM (fmt's text is open here; it may be false): for the released tool's asking of the row's closed facts alone. THE STATEMENT IS 'LawS3992BAllowedToldSaid' (YbulkcdqoFmtCards.lean). -/
def LawS3992BAllowedFormAsk : Prop := lawS3992BAllowedRow.holds Ybaf.pinned (OpenSpec.ofChange lawS3992BAllowedSpec)

/-- ITS FALSE NEIGHBOUR: 'it returns false'. Refute it at one input. -/
def lawS3992BAllowedWrong : ChangeSpec := { name := "lawS3992BAllowed", fn := fun _ => fun
  | [d] => { results := [.lit (.bool false)], args := [d] }
  | _ => none }
def LawS3992BAllowedWrongFormAsk : Prop := lawS3992BAllowedRow.holds Ybaf.pinned (OpenSpec.ofChange lawS3992BAllowedWrong)

/-- 'mrz.LawS3992BBuilt': WHATEVER THE INPUT: true; the input reads as it did. -/
def lawS3992BBuiltSpec : ChangeSpec := { name := "lawS3992BBuilt", fn := fun _ => fun
  | [d1, d2, d3, d4] => { results := [.lit (.bool true)], args := [d1, d2, d3, d4] }
  | _ => none }
def lawS3992BBuiltRow : OpenClaim := { program := "ybulkcdqofmt", sum := "db8a1074b2014cfa9a7099c3e44799ce94ba305f62cd0fa165ec5420a5bffb83", func := "example.com/portcullis/portcullis/mrz.LawS3992BBuilt", spec := "lawS3992BBuilt", stops := ["fmt.errorf"], inPlace := ["fmt.errorf"], apart := false }
/-- NO THEOREM (fmt's text is open here; it may be false): for the released tool's asking of the row's closed facts alone. THE STATEMENT IS 'LawS3992BBuiltToldSaid' (YbulkcdqoFmtCards.lean). -/
def LawS3992BBuiltFormAsk : Prop := lawS3992BBuiltRow.holds Ybaf.pinned (OpenSpec.ofChange lawS3992BBuiltSpec)

/-- ITS FALSE NEIGHBOUR: 'it returns false'. Refute it at one input. -/
def lawS3992BBuiltWrong : ChangeSpec := { name := "lawS3992BBuilt", fn := fun _ => fun
  | [d1, d2, d3, d4] => { results := [.lit (.bool false)], args := [d1, d2, d3, d4] }
  | _ => none }
def LawS3992BBuiltWrongFormAsk : Prop := lawS3992BBuiltRow.holds Ybaf.pinned (OpenSpec.ofChange lawS3992BBuiltWrong)

end Rows
end Go.Proofs.YbulkcdqoFmt
