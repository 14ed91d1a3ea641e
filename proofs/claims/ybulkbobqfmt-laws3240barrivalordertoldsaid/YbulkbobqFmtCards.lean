/-
  DERIVED. GIVEN WITH THE SEED: THE CARDS: each row of YbulkbobqFmtRows.lean that lists a variable, with what it lists TIED to the program's text (the seventh form; the later family's looks); each row that meets fmt, with fmt's text TOLD by the authors' own Lean function (tested against real Go, not proved from fmt's source: count such statements apart). THE CARD IS WHAT COUNTS. Prove the row's statement (the work); the ties are given (YbulkbobqFmtTie.lean); close each card by the builder's one call (the guide's Derived/Test/ToyasCard.lean, 'card_holds'). Laid BY PROGRAM, IN A SANDBOX (cutbox-door.mjs). By AI agents, Wed Nov 11 2026. No macro, syntax, notation, axiom, sorry.
-/
import Derived.Test.YbulkbobqFmtRows
import GoSem.ClaimSeven
namespace Go.Proofs.YbulkbobqFmt
namespace Rows

/-- THE TOLD AND TIED CARD OF 'causal.LawS3240BArrivalOrder'. -/
def lawS3240BArrivalOrderCard : Claim7 := { stood := { row := lawS3240BArrivalOrderRow, standIns := [], harness := (true, "612404682b99e1bf455d130df067d2afa711185556169fc9880ec70e1757832a"), looks := false }, told := true, laidByText := true, laidKinds := [.data], laidTests := true, laidLooks := .later, goes := false }
def LawS3240BArrivalOrderToldSaid : Prop := Claim7.holds Ybaf.pinned (.plain (OpenSpec.ofChange lawS3240BArrivalOrderSpec)) lawS3240BArrivalOrderCard
/-- ITS FALSE NEIGHBOUR. Refute it at one input. -/
def LawS3240BArrivalOrderToldWrongFalsely : Prop := Claim7.holds Ybaf.pinned (.plain (OpenSpec.ofChange lawS3240BArrivalOrderWrong)) lawS3240BArrivalOrderCard

/-- THE TOLD AND TIED CARD OF 'causal.LawS3240BHeldUntilDep'. -/
def lawS3240BHeldUntilDepCard : Claim7 := { stood := { row := lawS3240BHeldUntilDepRow, standIns := [], harness := (true, "612404682b99e1bf455d130df067d2afa711185556169fc9880ec70e1757832a"), looks := false }, told := true, laidByText := true, laidKinds := [.data], laidTests := true, laidLooks := .later, goes := false }
def LawS3240BHeldUntilDepToldSaid : Prop := Claim7.holds Ybaf.pinned (.plain (OpenSpec.ofChange lawS3240BHeldUntilDepSpec)) lawS3240BHeldUntilDepCard
/-- ITS FALSE NEIGHBOUR. Refute it at one input. -/
def LawS3240BHeldUntilDepToldWrongFalsely : Prop := Claim7.holds Ybaf.pinned (.plain (OpenSpec.ofChange lawS3240BHeldUntilDepWrong)) lawS3240BHeldUntilDepCard
end Rows
end Go.Proofs.YbulkbobqFmt
