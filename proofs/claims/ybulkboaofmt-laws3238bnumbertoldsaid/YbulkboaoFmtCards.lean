/-
  DERIVED. GIVEN WITH THE SEED: THE CARDS: each row of YbulkboaoFmtRows.lean that lists a variable, with what it lists TIED to the program's text (the seventh form; the later family's looks); each row that meets fmt, with fmt's text TOLD by the authors' own Lean function (tested against real Go, not proved from fmt's source: count such statements apart). THE CARD IS WHAT COUNTS. Prove the row's statement (the work); the ties are given (YbulkboaoFmtTie.lean); close each card by the builder's one call (the guide's Derived/Test/ToyasCard.lean, 'card_holds'). Laid BY PROGRAM, IN A SANDBOX (cutbox-door.mjs). By AI agents, Wed Nov 11 2026. No macro, syntax, notation, axiom, sorry.
-/
import Derived.Test.YbulkboaoFmtRows
import GoSem.ClaimSeven
namespace Go.Proofs.YbulkboaoFmt
namespace Rows

/-- THE TOLD CARD OF 'statement.LawS3238BNumber'. -/
def lawS3238BNumberCard : Claim7 := { stood := { row := lawS3238BNumberRow, standIns := [], harness := (true, "622500c45555274832f9b6256b096c903286d5c4de831a7a15defb8d5c40b631"), looks := true }, told := true, goes := false }
def LawS3238BNumberToldSaid : Prop := Claim7.holds Ybaf.pinned (.plain (OpenSpec.ofChange lawS3238BNumberSpec)) lawS3238BNumberCard
/-- ITS FALSE NEIGHBOUR. Refute it at one input. -/
def LawS3238BNumberToldWrongFalsely : Prop := Claim7.holds Ybaf.pinned (.plain (OpenSpec.ofChange lawS3238BNumberWrong)) lawS3238BNumberCard
end Rows
end Go.Proofs.YbulkboaoFmt
