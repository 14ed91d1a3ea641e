/-
  The closed facts for a walk over fmt.errorf's stop (function 19), after the guide's own make; the contracts of fmt.Errorf, errorf and container.errorf at the two formats of the road.
-/
import Derived.Test.YbulkbobcFmtRows
import Derived.Stop.CallBack
import Derived.Stop.IfaceNil
import Derived.WalkKit
import Derived.WalkSpells
import Derived.WalkLawsBesides
namespace Go.Proofs.YbulkbobcFmt
open Go.Extern.Stop Go.Stop Go.Extern Go.RowKit

theorem Ybaf.call19 (args : Array Value) (w : World) : (callFunc 19 args).run Ybaf.prog w = (FmtCalls.errorf #[9, 57] #[32] args).run Ybaf.prog w :=
  run_callFunc_next Ybaf.func19 (by kernel_rfl) (by kernel_rfl) (by kernel_rfl) args w
theorem Ybaf.guard (name : String) (w : World) : (FmtStop.guard name).run Ybaf.prog w = .ok () w := by kernel_rfl
theorem Ybaf.nextTurns : Extern.next FmtCalls.turnsRow = some (FmtCalls.begun #[] #[]) := by kernel_rfl
def fmtA : ByteArray := ⟨#[37, 115, 32, 114, 117, 110, 115, 32, 112, 97, 115, 116, 32, 105, 116, 115, 32, 115, 116, 97, 116, 101, 100, 32, 108, 101, 110, 103, 116, 104, 32, 111, 102, 32, 37, 100, 32, 98, 121, 116, 101, 115]⟩
def fmtB : ByteArray := ⟨#[37, 115, 39, 115, 32, 115, 116, 114, 105, 110, 103, 32, 101, 110, 100, 115, 32, 97, 116, 32, 98, 121, 116, 101, 32, 37, 100, 32, 111, 102, 32, 37, 100]⟩
theorem Ybaf.fmtA : FmtStop.printed? ⟨#[37, 115, 32, 114, 117, 110, 115, 32, 112, 97, 115, 116, 32, 105, 116, 115, 32, 115, 116, 97, 116, 101, 100, 32, 108, 101, 110, 103, 116, 104, 32, 111, 102, 32, 37, 100, 32, 98, 121, 116, 101, 115]⟩ 2 = some [(0, 115, false), (1, 100, false)] := by kernel_rfl
theorem Ybaf.fmtAr (w : World) : (FmtDoors.printed ⟨#[37, 115, 32, 114, 117, 110, 115, 32, 112, 97, 115, 116, 32, 105, 116, 115, 32, 115, 116, 97, 116, 101, 100, 32, 108, 101, 110, 103, 116, 104, 32, 111, 102, 32, 37, 100, 32, 98, 121, 116, 101, 115]⟩ 2).run Ybaf.prog w = .ok [(0, 115, false), (1, 100, false)] w := by kernel_rfl
theorem Ybaf.fmtB : FmtStop.printed? ⟨#[37, 115, 39, 115, 32, 115, 116, 114, 105, 110, 103, 32, 101, 110, 100, 115, 32, 97, 116, 32, 98, 121, 116, 101, 32, 37, 100, 32, 111, 102, 32, 37, 100]⟩ 3 = some [(0, 115, false), (1, 100, false), (2, 100, false)] := by kernel_rfl
theorem Ybaf.fmtBr (w : World) : (FmtDoors.printed ⟨#[37, 115, 39, 115, 32, 115, 116, 114, 105, 110, 103, 32, 101, 110, 100, 115, 32, 97, 116, 32, 98, 121, 116, 101, 32, 37, 100, 32, 111, 102, 32, 37, 100]⟩ 3).run Ybaf.prog w = .ok [(0, 115, false), (1, 100, false), (2, 100, false)] w := by kernel_rfl
def Ybaf.shape9 : List UInt8 := [12, 6, 0, 0, 0, 0, 0, 0, 0, 115, 116, 114, 105, 110, 103]
def Ybaf.shape24 : List UInt8 := [9, 6, 0, 0, 0, 0, 0, 0, 0, 117, 105, 110, 116, 54, 52]
theorem Ybaf.act9 (name : String) (x : Value) (w : World) : (FmtCalls.act name true 115 false (.iface 9 x)).run Ybaf.prog w = .ok (.closed true) w := by kernel_rfl
theorem Ybaf.op9 (name : String) (x : ByteArray) (w : World) : (FmtStop.operand name true 115 false (.iface 9 (.string x))).run Ybaf.prog w = .ok (Ybaf.shape9, FmtStop.pack x.data.toList) w := by kernel_rfl
theorem Ybaf.act24 (name : String) (x : Value) (w : World) : (FmtCalls.act name true 100 false (.iface 24 x)).run Ybaf.prog w = .ok (.closed true) w := by kernel_rfl
theorem Ybaf.op24 (name : String) (x : Int) (w : World) : (FmtStop.operand name true 100 false (.iface 24 (.int .u64 x))).run Ybaf.prog w = .ok (Ybaf.shape24, Go.Extern.Stop.digits 8 (x % 2 ^ 64).toNat) w := by kernel_rfl

theorem Ybaf.ptrErr (w : World) : (FmtStop.ptrTo "errors.errorString").run Ybaf.prog w = .ok 65 w := by kernel_rfl
theorem Ybaf.elemErr (w : World) : (elemOf 65).run Ybaf.prog w = .ok 67 w := by kernel_rfl

attribute [local go_sem] Ybaf.call19 Ybaf.guard Ybaf.fmtA Ybaf.fmtAr Ybaf.fmtB Ybaf.fmtBr Ybaf.act9 Ybaf.op9 Ybaf.act24 Ybaf.op24 Ybaf.ptrErr Ybaf.elemErr

set_option maxRecDepth 100000 in
set_option maxHeartbeats 400000 in
theorem ErrorfA (F : Interp) (s : ByteArray) (x : Int) (blk : Nat) (w : World) (hF : F.answers w.tape) (c0 : w.cell? ⟨blk, 0, none⟩ = some (.iface 9 (.string s))) (c1 : w.cell? ⟨blk, 1, none⟩ = some (.iface 24 (.int .u64 x))) :
    Calls Ybaf.prog 18 #[.string ⟨#[37, 115, 32, 114, 117, 110, 115, 32, 112, 97, 115, 116, 32, 105, 116, 115, 32, 115, 116, 97, 116, 101, 100, 32, 108, 101, 110, 103, 116, 104, 32, 111, 102, 32, 37, 100, 32, 98, 121, 116, 101, 115]⟩, .slice (some ⟨blk, 0, none⟩) 2 2] w fun e w' => (∃ b, e = .returned (.iface 65 (.pointer (some b)))) ∧ Below w.heap.size w w' := by
  have hF' := answers_open hF
  go_enter Ybaf.func18, Ybaf.ntmps18
  go_wp2
  apply rows_value Ybaf.nextTurns
  case hr => go_simp; exact ⟨rfl, rfl⟩
  case h =>
    go_wp2
    go_ret
    exact ⟨⟨_, rfl⟩, (((Below.refl _ _).alloc (Nat.le_refl _) _)).drew⟩

set_option maxRecDepth 100000 in
set_option maxHeartbeats 400000 in
theorem ErrorfB (F : Interp) (s : ByteArray) (x y : Int) (blk : Nat) (w : World) (hF : F.answers w.tape) (c0 : w.cell? ⟨blk, 0, none⟩ = some (.iface 9 (.string s))) (c1 : w.cell? ⟨blk, 1, none⟩ = some (.iface 24 (.int .u64 x))) (c2 : w.cell? ⟨blk, 2, none⟩ = some (.iface 24 (.int .u64 y))) :
    Calls Ybaf.prog 18 #[.string ⟨#[37, 115, 39, 115, 32, 115, 116, 114, 105, 110, 103, 32, 101, 110, 100, 115, 32, 97, 116, 32, 98, 121, 116, 101, 32, 37, 100, 32, 111, 102, 32, 37, 100]⟩, .slice (some ⟨blk, 0, none⟩) 3 3] w fun e w' => (∃ b, e = .returned (.iface 65 (.pointer (some b)))) ∧ Below w.heap.size w w' := by
  have hF' := answers_open hF
  go_enter Ybaf.func18, Ybaf.ntmps18
  go_wp2
  apply rows_value Ybaf.nextTurns
  case hr => go_simp; exact ⟨rfl, rfl⟩
  case h =>
    go_wp2
    go_ret
    exact ⟨⟨_, rfl⟩, (((Below.refl _ _).alloc (Nat.le_refl _) _)).drew⟩

set_option maxHeartbeats 400000 in
theorem errorfA (F : Interp) (off : Int) (s : ByteArray) (x : Int) (blk : Nat) (w : World) (hF : F.answers w.tape) (c0 : w.cell? ⟨blk, 0, none⟩ = some (.iface 9 (.string s))) (c1 : w.cell? ⟨blk, 1, none⟩ = some (.iface 24 (.int .u64 x))) :
    Calls Ybaf.prog 17 #[.int .i64 off, .string ⟨#[37, 115, 32, 114, 117, 110, 115, 32, 112, 97, 115, 116, 32, 105, 116, 115, 32, 115, 116, 97, 116, 101, 100, 32, 108, 101, 110, 103, 116, 104, 32, 111, 102, 32, 37, 100, 32, 98, 121, 116, 101, 115]⟩, .slice (some ⟨blk, 0, none⟩) 2 2] w fun e w' => (∃ b, e = .returned (.iface 59 (.pointer (some b)))) ∧ Below w.heap.size w w' := by
  go_enter Ybaf.func17, Ybaf.ntmps17
  go_wp2_with (go_at_call 18; refine (ErrorfA F s x blk _ hF c0 c1).mono ?_; rintro e w1 ⟨⟨b, rfl⟩, hb1⟩)
  go_ret
  exact ⟨⟨_, rfl⟩, hb1.alloc hb1.size _⟩

set_option maxHeartbeats 400000 in
theorem errorfB (F : Interp) (off : Int) (s : ByteArray) (x y : Int) (blk : Nat) (w : World) (hF : F.answers w.tape) (c0 : w.cell? ⟨blk, 0, none⟩ = some (.iface 9 (.string s))) (c1 : w.cell? ⟨blk, 1, none⟩ = some (.iface 24 (.int .u64 x))) (c2 : w.cell? ⟨blk, 2, none⟩ = some (.iface 24 (.int .u64 y))) :
    Calls Ybaf.prog 17 #[.int .i64 off, .string ⟨#[37, 115, 39, 115, 32, 115, 116, 114, 105, 110, 103, 32, 101, 110, 100, 115, 32, 97, 116, 32, 98, 121, 116, 101, 32, 37, 100, 32, 111, 102, 32, 37, 100]⟩, .slice (some ⟨blk, 0, none⟩) 3 3] w fun e w' => (∃ b, e = .returned (.iface 59 (.pointer (some b)))) ∧ Below w.heap.size w w' := by
  go_enter Ybaf.func17, Ybaf.ntmps17
  go_wp2_with (go_at_call 18; refine (ErrorfB F s x y blk _ hF c0 c1 c2).mono ?_; rintro e w1 ⟨⟨b, rfl⟩, hb1⟩)
  go_ret
  exact ⟨⟨_, rfl⟩, hb1.alloc hb1.size _⟩

set_option maxHeartbeats 400000 in
theorem cerrorfA (F : Interp) (C : Nat) (p : Int) (s : ByteArray) (x : Int) (blk : Nat) (w : World) (hF : F.answers w.tape) (hbase : w.cell? ⟨C, 6, none⟩ = some (.int .i64 0)) (c0 : w.cell? ⟨blk, 0, none⟩ = some (.iface 9 (.string s))) (c1 : w.cell? ⟨blk, 1, none⟩ = some (.iface 24 (.int .u64 x))) :
    Calls Ybaf.prog 15 #[.pointer (some ⟨C, 0, none⟩), .int .u64 p, .string ⟨#[37, 115, 32, 114, 117, 110, 115, 32, 112, 97, 115, 116, 32, 105, 116, 115, 32, 115, 116, 97, 116, 101, 100, 32, 108, 101, 110, 103, 116, 104, 32, 111, 102, 32, 37, 100, 32, 98, 121, 116, 101, 115]⟩, .slice (some ⟨blk, 0, none⟩) 2 2] w fun e w' => (∃ b, e = .returned (.iface 59 (.pointer (some b)))) ∧ Below w.heap.size w w' := by
  go_enter Ybaf.func15, Ybaf.ntmps15
  go_wp2_with (go_at_call 17; refine (errorfA F _ s x blk _ hF c0 c1).mono ?_; rintro e w1 ⟨⟨b, rfl⟩, hb1⟩)
  go_ret
  exact ⟨⟨_, rfl⟩, hb1⟩

set_option maxHeartbeats 400000 in
theorem cerrorfB (F : Interp) (C : Nat) (p : Int) (s : ByteArray) (x y : Int) (blk : Nat) (w : World) (hF : F.answers w.tape) (hbase : w.cell? ⟨C, 6, none⟩ = some (.int .i64 0)) (c0 : w.cell? ⟨blk, 0, none⟩ = some (.iface 9 (.string s))) (c1 : w.cell? ⟨blk, 1, none⟩ = some (.iface 24 (.int .u64 x))) (c2 : w.cell? ⟨blk, 2, none⟩ = some (.iface 24 (.int .u64 y))) :
    Calls Ybaf.prog 15 #[.pointer (some ⟨C, 0, none⟩), .int .u64 p, .string ⟨#[37, 115, 39, 115, 32, 115, 116, 114, 105, 110, 103, 32, 101, 110, 100, 115, 32, 97, 116, 32, 98, 121, 116, 101, 32, 37, 100, 32, 111, 102, 32, 37, 100]⟩, .slice (some ⟨blk, 0, none⟩) 3 3] w fun e w' => (∃ b, e = .returned (.iface 59 (.pointer (some b)))) ∧ Below w.heap.size w w' := by
  go_enter Ybaf.func15, Ybaf.ntmps15
  go_wp2_with (go_at_call 17; refine (errorfB F _ s x y blk _ hF c0 c1 c2).mono ?_; rintro e w1 ⟨⟨b, rfl⟩, hb1⟩)
  go_ret
  exact ⟨⟨_, rfl⟩, hb1⟩

end Go.Proofs.YbulkbobcFmt

