/-
  No cell of these rows narrows 'for every input' (looked for: loops, veiled, ifaces, maps, wideKeys, modest, calm, conditions, laid).
  DERIVED. THE GIVEN ROWS OF THIS SEAT. 2 by the template 'for every input the law returns true; each argument reads behind the call as it read before'; 0 by the template 'total and deterministic' (their statements: YbulkboaoTotals.lean).
  GIVEN WITH THE SEED: the statements are not yours to turn. If you find one false, say at which input.
  Laid BY PROGRAM, IN A SANDBOX (cutbox-rows.mjs): the forced cells as the released guide's own fill.sh prints them over the translation 202781a7d762437e… (all of the seat's roots in one cut). By AI agents, Wed Nov 11 2026. No macro, syntax, notation, axiom, sorry.
-/
import Derived.Test.YbulkboaoChecked
import GoSem.Claim
import GoSem.ClaimJoined
import GoSem.ClaimMapViews
import Derived.JoinedTies
import Derived.KernelRfl
namespace Go.Proofs.Ybulkboao
/- THE CELL 'sum', in the pinned program and in every row, IS THE sha256 OF THE DUMP (.gsa) THAT YbulkboaoProg.lean LOADS. Nothing in Lean hashes anything: it is a label: what it is worth is what the hold of that sum in a sandbox is worth. -/
noncomputable def Yba.pinned : Pinned := { name := "ybulkboao", sum := "202781a7d762437ea8a62c9f96c8a7fa4d3d3058f5921d1638a91d8ce45dc05f", checked := Yba.checked }
namespace Rows
def none {H : Type} : Left H := { results := [], args := [] }

/-- 'scenario.LawS3238CModel': WHATEVER THE INPUT: true; the input reads as it did. -/
def lawS3238CModelSpec : ChangeSpec := { name := "lawS3238CModel", fn := fun _ => fun
  | [d] => { results := [.lit (.bool true)], args := [d] }
  | _ => none }
def lawS3238CModelRow : OpenClaim := { program := "ybulkboao", sum := "202781a7d762437ea8a62c9f96c8a7fa4d3d3058f5921d1638a91d8ce45dc05f", func := "example.com/lockwise/lockwise/pkg/scenario.LawS3238CModel", spec := "lawS3238CModel", apart := false }
def LawS3238CModelSaid : Prop := lawS3238CModelRow.holds Yba.pinned (OpenSpec.ofChange lawS3238CModelSpec)

/-- ITS FALSE NEIGHBOUR: 'it returns false'. Refute it at one input. -/
def lawS3238CModelWrong : ChangeSpec := { name := "lawS3238CModel", fn := fun _ => fun
  | [d] => { results := [.lit (.bool false)], args := [d] }
  | _ => none }
def LawS3238CModelWrongFalsely : Prop := lawS3238CModelRow.holds Yba.pinned (OpenSpec.ofChange lawS3238CModelWrong)

/-- 'scenario.LawS3238CBuilt': WHATEVER THE INPUT: true; the input reads as it did. -/
def lawS3238CBuiltSpec : ChangeSpec := { name := "lawS3238CBuilt", fn := fun _ => fun
  | [d1, d2, d3, d4] => { results := [.lit (.bool true)], args := [d1, d2, d3, d4] }
  | _ => none }
def lawS3238CBuiltRow : OpenClaim := { program := "ybulkboao", sum := "202781a7d762437ea8a62c9f96c8a7fa4d3d3058f5921d1638a91d8ce45dc05f", func := "example.com/lockwise/lockwise/pkg/scenario.LawS3238CBuilt", spec := "lawS3238CBuilt", apart := false }
def LawS3238CBuiltSaid : Prop := lawS3238CBuiltRow.holds Yba.pinned (OpenSpec.ofChange lawS3238CBuiltSpec)

/-- ITS FALSE NEIGHBOUR: 'it returns false'. Refute it at one input. -/
def lawS3238CBuiltWrong : ChangeSpec := { name := "lawS3238CBuilt", fn := fun _ => fun
  | [d1, d2, d3, d4] => { results := [.lit (.bool false)], args := [d1, d2, d3, d4] }
  | _ => none }
def LawS3238CBuiltWrongFalsely : Prop := lawS3238CBuiltRow.holds Yba.pinned (OpenSpec.ofChange lawS3238CBuiltWrong)

end Rows
end Go.Proofs.Ybulkboao
