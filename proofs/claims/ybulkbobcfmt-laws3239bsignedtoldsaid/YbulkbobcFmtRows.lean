/-
  NARROWER THAN 'FOR EVERY INPUT', by the rows' own cells (each row's printed sentence says how): LawS3239BValue: laid · LawS3239BSigned: laid.
  DERIVED. THE GIVEN ROWS OF THIS SEAT. 2 by the template 'for every input the law returns true; each argument reads behind the call as it read before'; 0 by the template 'total and deterministic' (their statements: YbulkbobcFmtTotals.lean).
  GIVEN WITH THE SEED: the statements are not yours to turn. If you find one false, say at which input.
  Laid BY PROGRAM, IN A SANDBOX (cutbox-rows.mjs): the forced cells as the released guide's own fill.sh prints them over the translation 45f812c0290b46d3… (all of the seat's roots in one cut). By AI agents, Wed Nov 11 2026. No macro, syntax, notation, axiom, sorry.
-/
import Derived.Test.YbulkbobcFmtChecked
import GoSem.Claim
import GoSem.ClaimJoined
import GoSem.ClaimMapViews
import Derived.JoinedTies
import Derived.KernelRfl
namespace Go.Proofs.YbulkbobcFmt
/- THE CELL 'sum', in the pinned program and in every row, IS THE sha256 OF THE DUMP (.gsa) THAT YbulkbobcFmtProg.lean LOADS. Nothing in Lean hashes anything: it is a label: what it is worth is what the hold of that sum in a sandbox is worth. -/
noncomputable def Ybaf.pinned : Pinned := { name := "ybulkbobcfmt", sum := "45f812c0290b46d3f58517f8c265cf3002a6c9693735e473b76a85d3dcc1a6b7", checked := Ybaf.checked }
namespace Rows
def none {H : Type} : Left H := { results := [], args := [] }

/- WHAT THE LISTED PACKAGE-LEVEL VARIABLES READ AS WHEN THE CALL BEGINS. Each datum BY PROGRAM (the guide's laid-datum.mjs) off the statement by which the dump's own 'gosem.cut.vars' lays the variable. In a bare row this is a premise. The card (YbulkbobcFmtCards.lean) ties it to the program's text. -/
def laid_io_EOF {H : Type} : DataW H := .iface "*errors.errorString" (.ptr (.agg [.lit (.string [69, 79, 70])]))
def laid_io_ErrUnexpectedEOF {H : Type} : DataW H := .iface "*errors.errorString" (.ptr (.agg [.lit (.string [117, 110, 101, 120, 112, 101, 99, 116, 101, 100, 32, 69, 79, 70])]))

/-- 'rdb.LawS3239BValue': WHATEVER THE INPUT: true; the input reads as it did. -/
def lawS3239BValueSpec : ChangeSpec := { name := "lawS3239BValue", fn := fun _ => fun
  | [d1, d2, d3, d4, d5] => { results := [.lit (.bool true)], args := [d1, d2, d3, d4, d5] }
  | _ => none }
def lawS3239BValueRow : OpenClaim := { program := "ybulkbobcfmt", sum := "45f812c0290b46d3f58517f8c265cf3002a6c9693735e473b76a85d3dcc1a6b7", func := "example.com/dumplens/dumplens/pkg/rdb.LawS3239BValue", spec := "lawS3239BValue", stops := ["fmt.errorf, its operands' methods called", "fmt.Sprintf, its operands' methods called"], inPlace := ["fmt.errorf"], unfollowed := true, recurses := true, named := ["encoding/binary.LittleEndian", "io.EOF", "io.ErrUnexpectedEOF"], apart := false, laid := [("io.EOF", laid_io_EOF), ("io.ErrUnexpectedEOF", laid_io_ErrUnexpectedEOF)] }
/-- NO THEOREM (fmt's text is open here; it may be false): for the released tool's asking of the row's closed facts alone. THE STATEMENT IS 'LawS3239BValueToldSaid' (YbulkbobcFmtCards.lean). -/
def LawS3239BValueFormAsk : Prop := lawS3239BValueRow.holds Ybaf.pinned (OpenSpec.ofChange lawS3239BValueSpec)

/-- ITS FALSE NEIGHBOUR: 'it returns false'. Refute it at one input. -/
def lawS3239BValueWrong : ChangeSpec := { name := "lawS3239BValue", fn := fun _ => fun
  | [d1, d2, d3, d4, d5] => { results := [.lit (.bool false)], args := [d1, d2, d3, d4, d5] }
  | _ => none }
def LawS3239BValueWrongFormAsk : Prop := lawS3239BValueRow.holds Ybaf.pinned (OpenSpec.ofChange lawS3239BValueWrong)

/-- 'rdb.LawS3239BSigned': WHATEVER THE INPUT: true; the input reads as it did. -/
def lawS3239BSignedSpec : ChangeSpec := { name := "lawS3239BSigned", fn := fun _ => fun
  | [d1, d2, d3, d4, d5] => { results := [.lit (.bool true)], args := [d1, d2, d3, d4, d5] }
  | _ => none }
def lawS3239BSignedRow : OpenClaim := { program := "ybulkbobcfmt", sum := "45f812c0290b46d3f58517f8c265cf3002a6c9693735e473b76a85d3dcc1a6b7", func := "example.com/dumplens/dumplens/pkg/rdb.LawS3239BSigned", spec := "lawS3239BSigned", stops := ["fmt.errorf, its operands' methods called", "fmt.Sprintf, its operands' methods called"], inPlace := ["fmt.errorf"], unfollowed := true, recurses := true, named := ["encoding/binary.LittleEndian", "io.EOF", "io.ErrUnexpectedEOF"], apart := false, laid := [("io.EOF", laid_io_EOF), ("io.ErrUnexpectedEOF", laid_io_ErrUnexpectedEOF)] }
/-- NO THEOREM (fmt's text is open here; it may be false): for the released tool's asking of the row's closed facts alone. THE STATEMENT IS 'LawS3239BSignedToldSaid' (YbulkbobcFmtCards.lean). -/
def LawS3239BSignedFormAsk : Prop := lawS3239BSignedRow.holds Ybaf.pinned (OpenSpec.ofChange lawS3239BSignedSpec)

/-- ITS FALSE NEIGHBOUR: 'it returns false'. Refute it at one input. -/
def lawS3239BSignedWrong : ChangeSpec := { name := "lawS3239BSigned", fn := fun _ => fun
  | [d1, d2, d3, d4, d5] => { results := [.lit (.bool false)], args := [d1, d2, d3, d4, d5] }
  | _ => none }
def LawS3239BSignedWrongFormAsk : Prop := lawS3239BSignedRow.holds Ybaf.pinned (OpenSpec.ofChange lawS3239BSignedWrong)

end Rows
end Go.Proofs.YbulkbobcFmt
