/-
  No cell of these rows narrows 'for every input' (looked for: loops, veiled, ifaces, maps, wideKeys, modest, calm, conditions, laid).
  DERIVED. THE GIVEN ROWS OF THIS SEAT. 1 by the template 'for every input the law returns true; each argument reads behind the call as it read before'; 0 by the template 'total and deterministic' (their statements: YbulkboaoFmtTotals.lean).
  GIVEN WITH THE SEED: the statements are not yours to turn. If you find one false, say at which input.
  Laid BY PROGRAM, IN A SANDBOX (cutbox-rows.mjs): the forced cells as the released guide's own fill.sh prints them over the translation 40bcce51827fea8f… (all of the seat's roots in one cut). By AI agents, Wed Nov 11 2026. No macro, syntax, notation, axiom, sorry.
-/
import Derived.Test.YbulkboaoFmtChecked
import GoSem.Claim
import GoSem.ClaimJoined
import GoSem.ClaimMapViews
import Derived.JoinedTies
import Derived.KernelRfl
namespace Go.Proofs.YbulkboaoFmt
/- THE CELL 'sum', in the pinned program and in every row, IS THE sha256 OF THE DUMP (.gsa) THAT YbulkboaoFmtProg.lean LOADS. Nothing in Lean hashes anything: it is a label: what it is worth is what the hold of that sum in a sandbox is worth. -/
noncomputable def Ybaf.pinned : Pinned := { name := "ybulkboaofmt", sum := "40bcce51827fea8f48125f9e42dcb8d9675b0b0cf1a7f745e7fab9b593cd033f", checked := Ybaf.checked }
namespace Rows
def none {H : Type} : Left H := { results := [], args := [] }

/-- 'statement.LawS3238BNumber': WHATEVER THE INPUT: true; the input reads as it did. -/
def lawS3238BNumberSpec : ChangeSpec := { name := "lawS3238BNumber", fn := fun _ => fun
  | [d1, d2, d3, d4] => { results := [.lit (.bool true)], args := [d1, d2, d3, d4] }
  | _ => none }
def lawS3238BNumberRow : OpenClaim := { program := "ybulkboaofmt", sum := "40bcce51827fea8f48125f9e42dcb8d9675b0b0cf1a7f745e7fab9b593cd033f", func := "example.com/lockwise/lockwise/pkg/statement.LawS3238BNumber", spec := "lawS3238BNumber", stops := ["fmt.Sprintf, its operands' methods called"], inPlace := ["fmt.Sprintf"], unfollowed := true, recurses := true, apart := false }
/-- NO THEOREM (fmt's text is open here; it may be false): for the released tool's asking of the row's closed facts alone. THE STATEMENT IS 'LawS3238BNumberToldSaid' (YbulkboaoFmtCards.lean). -/
def LawS3238BNumberFormAsk : Prop := lawS3238BNumberRow.holds Ybaf.pinned (OpenSpec.ofChange lawS3238BNumberSpec)

/-- ITS FALSE NEIGHBOUR: 'it returns false'. Refute it at one input. -/
def lawS3238BNumberWrong : ChangeSpec := { name := "lawS3238BNumber", fn := fun _ => fun
  | [d1, d2, d3, d4] => { results := [.lit (.bool false)], args := [d1, d2, d3, d4] }
  | _ => none }
def LawS3238BNumberWrongFormAsk : Prop := lawS3238BNumberRow.holds Ybaf.pinned (OpenSpec.ofChange lawS3238BNumberWrong)

end Rows
end Go.Proofs.YbulkboaoFmt
