/-
  What both cards need beside the walks: closed facts, the table off 'laid', one start that fits.
-/
import Derived.Test.YbulkbobqFmtTie
import Derived.Test.YbulkbobqFmtCards
import Derived.Test.YbulkbobqFmtSmall
import Derived.ProofKit
import Derived.LaidLaws
import Derived.Lib.LaidTab
namespace Go.Proofs.YbulkbobqFmt
open Go.ChangeShapes Go.WideShapes Go.ChangeAt Go.RowKit

theorem Ybaf.own : ownKnob Ybaf.prog.godebug = none := by kernel_rfl
theorem Ybaf.laidOut : laidOutB Ybaf.prog = true := by kernel_rfl
theorem Ybaf.cells5 : Ybaf.prog.cellsOf 5 = 1 := by kernel_rfl
theorem Ybaf.cells78 : Ybaf.prog.cellsOf 78 = 64 := by kernel_rfl
theorem Ybaf.tabName : Ybaf.prog.globalNamed "math/bits.deBruijn64tab" = some 0 := by kernel_rfl
theorem Ybaf.tabType : (Ybaf.prog.globals[0]?).map (·.type) = some 78 := by kernel_rfl

def tabInts : List Int := Lib.deBruijn64tab.map fun (n : Nat) => (n : Int)

theorem tab_of_laid {W : World} (h : laidMet Ybaf.prog [("math/bits.deBruijn64tab", Rows.laid_math_bits_deBruijn64tab)] W) : Tab W := by
  have h' : laidMet Ybaf.prog [("math/bits.deBruijn64tab", Lib.tabData .u8 tabInts)] W := h
  have hT := Lib.tabIs_of_head Ybaf.tabName Ybaf.tabType Ybaf.underlying78 Ybaf.underlying5 Ybaf.cells5 Ybaf.cells78 h'
  intro j hj
  rw [hT.cell Ybaf.tabName j (by simpa [tabInts, Lib.deBruijn64tab] using hj)]
  have hjl : j < Lib.deBruijn64tab.length := by simpa [Lib.deBruijn64tab] using hj
  simp only [tabInts, List.getD_eq_getElem?_getD, List.getElem?_map]
  rw [List.getElem?_eq_getElem hjl]
  rfl

/-! ### One start that fits -/
def laidWorld (P : Program) (os : Os) : World :=
  let w0 := World.holding P os ⟨#[], #[], []⟩
  { w0 with heap := w0.heap.modify 0 fun
    | .cells _ t frozen => .cells (Lib.deBruijn64tab.map fun (n : Nat) => Value.int .u8 (n : Int)).toArray t frozen
    | o => o }
theorem laid_met (os : Os) (args : Array Value) : laidMet Ybaf.prog [("math/bits.deBruijn64tab", Rows.laid_math_bits_deBruijn64tab)] ((laidWorld Ybaf.prog os).forCall (fun _ _ => 0) ⟨#[], args, []⟩).memory :=
  laidMet_of_run' 8 (by kernel_rfl) (by kernel_rfl)

theorem Ybaf.stopKnobs : Ybaf.pinned.checked.prog.stopKnobs = [] := by kernel_rfl
theorem Ybaf.quiet (os : Os) : Stop.quiet Ybaf.pinned.checked.prog os := by
  intro k hk
  rw [Ybaf.stopKnobs] at hk
  cases hk

end Go.Proofs.YbulkbobqFmt
