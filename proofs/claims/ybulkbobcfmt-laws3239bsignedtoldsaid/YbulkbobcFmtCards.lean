/-
  DERIVED. GIVEN WITH THE SEED: THE CARDS: each row of YbulkbobcFmtRows.lean that lists a variable, with what it lists TIED to the program's text (the seventh form; the later family's looks); each row that meets fmt, with fmt's text TOLD by the authors' own Lean function (tested against real Go, not proved from fmt's source: count such statements apart). THE CARD IS WHAT COUNTS. Prove the row's statement (the work); the ties are given (YbulkbobcFmtTie.lean); close each card by the builder's one call (the guide's Derived/Test/ToyasCard.lean, 'card_holds'). Laid BY PROGRAM, IN A SANDBOX (cutbox-door.mjs). By AI agents, Wed Nov 11 2026. No macro, syntax, notation, axiom, sorry.
-/
import Derived.Test.YbulkbobcFmtRows
import GoSem.ClaimSeven
namespace Go.Proofs.YbulkbobcFmt
namespace Rows

/-- THE TOLD AND TIED CARD OF 'rdb.LawS3239BValue'. -/
def lawS3239BValueCard : Claim7 := { stood := { row := lawS3239BValueRow, standIns := [], harness := (true, "3cfb9b1c10e9ca683f26420be11f2b7072e53f138dbf08c92c33a06a361a314a"), looks := true }, told := true, laidByText := true, laidKinds := [.sentinel, .sentinel], laidTests := true, laidLooks := .later, goes := false }
def LawS3239BValueToldSaid : Prop := Claim7.holds Ybaf.pinned (.plain (OpenSpec.ofChange lawS3239BValueSpec)) lawS3239BValueCard
/-- ITS FALSE NEIGHBOUR. Refute it at one input. -/
def LawS3239BValueToldWrongFalsely : Prop := Claim7.holds Ybaf.pinned (.plain (OpenSpec.ofChange lawS3239BValueWrong)) lawS3239BValueCard

/-- THE TOLD AND TIED CARD OF 'rdb.LawS3239BSigned'. -/
def lawS3239BSignedCard : Claim7 := { stood := { row := lawS3239BSignedRow, standIns := [], harness := (true, "3cfb9b1c10e9ca683f26420be11f2b7072e53f138dbf08c92c33a06a361a314a"), looks := true }, told := true, laidByText := true, laidKinds := [.sentinel, .sentinel], laidTests := true, laidLooks := .later, goes := false }
def LawS3239BSignedToldSaid : Prop := Claim7.holds Ybaf.pinned (.plain (OpenSpec.ofChange lawS3239BSignedSpec)) lawS3239BSignedCard
/-- ITS FALSE NEIGHBOUR. Refute it at one input. -/
def LawS3239BSignedToldWrongFalsely : Prop := Claim7.holds Ybaf.pinned (.plain (OpenSpec.ofChange lawS3239BSignedWrong)) lawS3239BSignedCard
end Rows
end Go.Proofs.YbulkbobcFmt
