/-
  NARROWER THAN 'FOR EVERY INPUT', by the rows' own cells (each row's printed sentence says how): LawS3991BExact: laid · LawS3991BAccept: laid.
  DERIVED. THE GIVEN ROWS OF THIS SEAT. 2 by the template 'for every input the law returns true; each argument reads behind the call as it read before'; 0 by the template 'total and deterministic' (their statements: YbulkcdqaDoorTotals.lean).
  GIVEN WITH THE SEED: the statements are not yours to turn. If you find one false, say at which input.
  Laid BY PROGRAM, IN A SANDBOX (cutbox-rows.mjs): the forced cells as the released guide's own fill.sh prints them over the translation a91337539a842be0… (all of the seat's roots in one cut). By AI agents, Wed Nov 11 2026. No macro, syntax, notation, axiom, sorry.
-/
import Derived.Test.YbulkcdqaDoorChecked
import GoSem.Claim
import GoSem.ClaimJoined
import GoSem.ClaimMapViews
import Derived.JoinedTies
import Derived.KernelRfl
namespace Go.Proofs.YbulkcdqaDoor
/- THE CELL 'sum', in the pinned program and in every row, IS THE sha256 OF THE DUMP (.gsa) THAT YbulkcdqaDoorProg.lean LOADS. Nothing in Lean hashes anything: it is a label: what it is worth is what the hold of that sum in a sandbox is worth. -/
noncomputable def Ybad.pinned : Pinned := { name := "ybulkcdqadoor", sum := "a91337539a842be07907ad6546a6e93ada441bb3240721324343f14f88691a01", checked := Ybad.checked }
namespace Rows
def none {H : Type} : Left H := { results := [], args := [] }

/- WHAT THE LISTED PACKAGE-LEVEL VARIABLES READ AS WHEN THE CALL BEGINS. Each datum BY PROGRAM (the guide's laid-datum.mjs) off the statement by which the dump's own 'gosem.cut.vars' lays the variable. In a bare row this is a premise. The card (YbulkcdqaDoorCards.lean) ties it to the program's text. -/
def laid_io_ErrUnexpectedEOF {H : Type} : DataW H := .iface "*errors.errorString" (.ptr (.agg [.lit (.string [117, 110, 101, 120, 112, 101, 99, 116, 101, 100, 32, 69, 79, 70])]))
def laid_compress_zlib_ErrDictionary {H : Type} : DataW H := .iface "*errors.errorString" (.ptr (.agg [.lit (.string [122, 108, 105, 98, 58, 32, 105, 110, 118, 97, 108, 105, 100, 32, 100, 105, 99, 116, 105, 111, 110, 97, 114, 121])]))
def laid_compress_zlib_ErrHeader {H : Type} : DataW H := .iface "*errors.errorString" (.ptr (.agg [.lit (.string [122, 108, 105, 98, 58, 32, 105, 110, 118, 97, 108, 105, 100, 32, 104, 101, 97, 100, 101, 114])]))

/-- 'stratalog.LawS3991BExact': WHATEVER THE INPUT: true; the input reads as it did. -/
def lawS3991BExactSpec : ChangeSpec := { name := "lawS3991BExact", fn := fun _ => fun
  | [d1, d2, d3] => { results := [.lit (.bool true)], args := [d1, d2, d3] }
  | _ => none }
def lawS3991BExactRow : OpenClaim := { program := "ybulkcdqadoor", sum := "a91337539a842be07907ad6546a6e93ada441bb3240721324343f14f88691a01", func := "example.com/stratalog/stratalog.LawS3991BExact", spec := "lawS3991BExact", named := ["io.ErrUnexpectedEOF", "compress/zlib.ErrHeader", "compress/zlib.ErrDictionary", "encoding/binary.BigEndian"], apart := false, laid := [("io.ErrUnexpectedEOF", laid_io_ErrUnexpectedEOF), ("compress/zlib.ErrDictionary", laid_compress_zlib_ErrDictionary), ("compress/zlib.ErrHeader", laid_compress_zlib_ErrHeader)] }
def LawS3991BExactSaid : Prop := lawS3991BExactRow.holds Ybad.pinned (OpenSpec.ofChange lawS3991BExactSpec)

/-- ITS FALSE NEIGHBOUR: 'it returns false'. Refute it at one input. -/
def lawS3991BExactWrong : ChangeSpec := { name := "lawS3991BExact", fn := fun _ => fun
  | [d1, d2, d3] => { results := [.lit (.bool false)], args := [d1, d2, d3] }
  | _ => none }
def LawS3991BExactWrongFalsely : Prop := lawS3991BExactRow.holds Ybad.pinned (OpenSpec.ofChange lawS3991BExactWrong)

/-- 'stratalog.LawS3991BAccept': WHATEVER THE INPUT: true; the input reads as it did. -/
def lawS3991BAcceptSpec : ChangeSpec := { name := "lawS3991BAccept", fn := fun _ => fun
  | [d1, d2, d3, d4] => { results := [.lit (.bool true)], args := [d1, d2, d3, d4] }
  | _ => none }
def lawS3991BAcceptRow : OpenClaim := { program := "ybulkcdqadoor", sum := "a91337539a842be07907ad6546a6e93ada441bb3240721324343f14f88691a01", func := "example.com/stratalog/stratalog.LawS3991BAccept", spec := "lawS3991BAccept", named := ["io.ErrUnexpectedEOF", "encoding/binary.BigEndian", "compress/zlib.ErrHeader", "compress/zlib.ErrDictionary"], apart := false, laid := [("io.ErrUnexpectedEOF", laid_io_ErrUnexpectedEOF), ("compress/zlib.ErrDictionary", laid_compress_zlib_ErrDictionary), ("compress/zlib.ErrHeader", laid_compress_zlib_ErrHeader)] }
def LawS3991BAcceptSaid : Prop := lawS3991BAcceptRow.holds Ybad.pinned (OpenSpec.ofChange lawS3991BAcceptSpec)

/-- ITS FALSE NEIGHBOUR: 'it returns false'. Refute it at one input. -/
def lawS3991BAcceptWrong : ChangeSpec := { name := "lawS3991BAccept", fn := fun _ => fun
  | [d1, d2, d3, d4] => { results := [.lit (.bool false)], args := [d1, d2, d3, d4] }
  | _ => none }
def LawS3991BAcceptWrongFalsely : Prop := lawS3991BAcceptRow.holds Ybad.pinned (OpenSpec.ofChange lawS3991BAcceptWrong)

end Rows
end Go.Proofs.YbulkcdqaDoor
