/-
  The closed facts for a walk over fmt.Sprintf's stop (function 9), after the guide's own make: each by the kernel's own reckoning.
-/
import Derived.Test.YbulkboaoFmtRows
import Derived.Stop.CallBack
import Derived.Stop.IfaceNil
import Derived.WalkKit
import Derived.WalkSpells
import Derived.WalkLawsBesides
namespace Go.Proofs.YbulkboaoFmt
open Go.Extern.Stop Go.Stop Go.Extern Go.RowKit

theorem Ybaf.call9 (args : Array Value) (w : World) : (callFunc 9 args).run Ybaf.prog w = (FmtCalls.sprintf #[9, 46] #[9] args).run Ybaf.prog w :=
  run_callFunc_next Ybaf.func9 (by kernel_rfl) (by kernel_rfl) (by kernel_rfl) args w
theorem Ybaf.guard (name : String) (w : World) : (FmtStop.guard name).run Ybaf.prog w = .ok () w := by kernel_rfl
theorem Ybaf.nextTurns : Extern.next FmtCalls.turnsRow = some (FmtCalls.begun #[] #[]) := by kernel_rfl
-- the two formats, one operand each
theorem Ybaf.fmtQ : FmtStop.printed? ⟨#[37, 113]⟩ 1 = some [(0, 113, false)] := by kernel_rfl
theorem Ybaf.fmtQr (w : World) : (FmtDoors.printed ⟨#[37, 113]⟩ 1).run Ybaf.prog w = .ok [(0, 113, false)] w := by kernel_rfl
theorem Ybaf.fmtS : FmtStop.printed? ⟨#[101, 120, 112, 101, 99, 116, 101, 100, 32, 97, 32, 110, 117, 109, 98, 101, 114, 44, 32, 102, 111, 117, 110, 100, 32, 37, 115]⟩ 1 = some [(0, 115, false)] := by kernel_rfl
theorem Ybaf.fmtSr (w : World) : (FmtDoors.printed ⟨#[101, 120, 112, 101, 99, 116, 101, 100, 32, 97, 32, 110, 117, 109, 98, 101, 114, 44, 32, 102, 111, 117, 110, 100, 32, 37, 115]⟩ 1).run Ybaf.prog w = .ok [(0, 115, false)] w := by kernel_rfl
-- the operand: a string
def Ybaf.shape9 : List UInt8 := [12, 6, 0, 0, 0, 0, 0, 0, 0, 115, 116, 114, 105, 110, 103]
theorem Ybaf.act9_113 (name : String) (x : Value) (w : World) : (FmtCalls.act name false 113 false (.iface 9 x)).run Ybaf.prog w = .ok (.closed false) w := by kernel_rfl
theorem Ybaf.op9_113 (name : String) (x : ByteArray) (w : World) : (FmtStop.operand name false 113 false (.iface 9 (.string x))).run Ybaf.prog w = .ok (Ybaf.shape9, FmtStop.pack x.data.toList) w := by kernel_rfl
theorem Ybaf.act9_115 (name : String) (x : Value) (w : World) : (FmtCalls.act name false 115 false (.iface 9 x)).run Ybaf.prog w = .ok (.closed false) w := by kernel_rfl
theorem Ybaf.op9_115 (name : String) (x : ByteArray) (w : World) : (FmtStop.operand name false 115 false (.iface 9 (.string x))).run Ybaf.prog w = .ok (Ybaf.shape9, FmtStop.pack x.data.toList) w := by kernel_rfl

attribute [local go_sem] Ybaf.call9 Ybaf.guard Ybaf.fmtQ Ybaf.fmtQr Ybaf.fmtS Ybaf.fmtSr Ybaf.act9_113 Ybaf.op9_113 Ybaf.act9_115 Ybaf.op9_115

/-- The token's kind: the end. -/
def tokEnd : ByteArray := ⟨#[101, 110, 100, 32, 111, 102, 32, 115, 116, 97, 116, 101, 109, 101, 110, 116]⟩

set_option maxHeartbeats 400000 in
theorem describe_no (F : Interp) (k s v : ByteArray) (p : Int) (sp : Option Addr) (w : World) (hF : F.answers w.tape) (hk : (k.toList == [101, 110, 100, 32, 111, 102, 32, 115, 116, 97, 116, 101, 109, 101, 110, 116]) = false) :
    Calls Ybaf.prog 8 #[.agg #[.string k, .string s, .string v, .int .i64 p, .pointer sp]] w fun e w' => ∃ t : ByteArray, e = .returned (.string t) ∧ Below w.heap.size w w' := by
  have hF' := answers_open hF
  go_enter Ybaf.func8, Ybaf.ntmps8
  go_wp2
  apply rows_value Ybaf.nextTurns
  case hr => go_simp; exact ⟨rfl, rfl⟩
  case h =>
    go_wp2
    go_ret
    exact ⟨_, rfl, (((Below.refl _ _).alloc (Nat.le_refl _) _).alloc (by simp) _).drew⟩

end Go.Proofs.YbulkboaoFmt
