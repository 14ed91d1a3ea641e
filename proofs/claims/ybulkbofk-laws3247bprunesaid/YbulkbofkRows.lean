/-
  No cell of these rows narrows 'for every input' (looked for: loops, veiled, ifaces, maps, wideKeys, modest, calm, conditions, laid).
  DERIVED. THE GIVEN ROWS OF THIS SEAT. 2 by the template 'for every input the law returns true; each argument reads behind the call as it read before'; 0 by the template 'total and deterministic' (their statements: YbulkbofkTotals.lean).
  GIVEN WITH THE SEED: the statements are not yours to turn. If you find one false, say at which input.
  Laid BY PROGRAM, IN A SANDBOX (cutbox-rows.mjs): the forced cells as the released guide's own fill.sh prints them over the translation 968ef9f400c19b26… (all of the seat's roots in one cut). By AI agents, Wed Nov 11 2026. No macro, syntax, notation, axiom, sorry.
-/
import Derived.Test.YbulkbofkChecked
import GoSem.Claim
import GoSem.ClaimJoined
import GoSem.ClaimMapViews
import Derived.JoinedTies
import Derived.KernelRfl
namespace Go.Proofs.Ybulkbofk
/- THE CELL 'sum', in the pinned program and in every row, IS THE sha256 OF THE DUMP (.gsa) THAT YbulkbofkProg.lean LOADS. Nothing in Lean hashes anything: it is a label: what it is worth is what the hold of that sum in a sandbox is worth. -/
noncomputable def Yba.pinned : Pinned := { name := "ybulkbofk", sum := "968ef9f400c19b2614b0ef815b5c944a7bd0673552bee20d2e852f175ba1defa", checked := Yba.checked }
namespace Rows
def none {H : Type} : Left H := { results := [], args := [] }

/-- 'server.LawS3247AExact': WHATEVER THE INPUT: true; the input reads as it did. -/
def lawS3247AExactSpec : ChangeSpec := { name := "lawS3247AExact", fn := fun _ => fun
  | [d1, d2, d3, d4, d5, d6] => { results := [.lit (.bool true)], args := [d1, d2, d3, d4, d5, d6] }
  | _ => none }
def lawS3247AExactRow : OpenClaim := { program := "ybulkbofk", sum := "968ef9f400c19b2614b0ef815b5c944a7bd0673552bee20d2e852f175ba1defa", func := "example.com/procpulse/procpulse/internal/server.LawS3247AExact", spec := "lawS3247AExact", unfollowed := true, recurses := true, apart := false }
def LawS3247AExactSaid : Prop := lawS3247AExactRow.holds Yba.pinned (OpenSpec.ofChange lawS3247AExactSpec)

/-- ITS FALSE NEIGHBOUR: 'it returns false'. Refute it at one input. -/
def lawS3247AExactWrong : ChangeSpec := { name := "lawS3247AExact", fn := fun _ => fun
  | [d1, d2, d3, d4, d5, d6] => { results := [.lit (.bool false)], args := [d1, d2, d3, d4, d5, d6] }
  | _ => none }
def LawS3247AExactWrongFalsely : Prop := lawS3247AExactRow.holds Yba.pinned (OpenSpec.ofChange lawS3247AExactWrong)

/-- 'server.LawS3247BPrune': WHATEVER THE INPUT: true; the input reads as it did. -/
def lawS3247BPruneSpec : ChangeSpec := { name := "lawS3247BPrune", fn := fun _ => fun
  | [d1, d2] => { results := [.lit (.bool true)], args := [d1, d2] }
  | _ => none }
def lawS3247BPruneRow : OpenClaim := { program := "ybulkbofk", sum := "968ef9f400c19b2614b0ef815b5c944a7bd0673552bee20d2e852f175ba1defa", func := "example.com/procpulse/procpulse/internal/server.LawS3247BPrune", spec := "lawS3247BPrune", inPlace := ["(*internal/sync.Mutex).Lock", "internal/race.Disable", "sync/atomic.CompareAndSwapInt32", "internal/race.Enable", "internal/race.Acquire", "(*internal/sync.Mutex).lockSlow", "internal/sync.runtime_canSpin", "internal/sync.runtime_doSpin", "internal/sync.throw", "internal/sync.runtime_nanotime", "internal/sync.runtime_SemacquireMutex", "sync/atomic.AddInt32", "(*internal/sync.Mutex).Unlock", "internal/race.ReleaseMerge", "(*internal/sync.Mutex).unlockSlow", "internal/sync.fatal", "internal/sync.runtime_Semrelease"], apart := false }
def LawS3247BPruneSaid : Prop := lawS3247BPruneRow.holds Yba.pinned (OpenSpec.ofChange lawS3247BPruneSpec)

/-- ITS FALSE NEIGHBOUR: 'it returns false'. Refute it at one input. -/
def lawS3247BPruneWrong : ChangeSpec := { name := "lawS3247BPrune", fn := fun _ => fun
  | [d1, d2] => { results := [.lit (.bool false)], args := [d1, d2] }
  | _ => none }
def LawS3247BPruneWrongFalsely : Prop := lawS3247BPruneRow.holds Yba.pinned (OpenSpec.ofChange lawS3247BPruneWrong)

end Rows
end Go.Proofs.Ybulkbofk
