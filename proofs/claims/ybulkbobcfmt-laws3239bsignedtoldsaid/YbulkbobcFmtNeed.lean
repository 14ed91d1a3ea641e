/-
  The contracts of need and fail.
-/
import Derived.Test.YbulkbobcFmtMem
import Derived.Deep.RegionWith
import Derived.Deep.LoopGhost
import Derived.BigQuiet
import Derived.BigRegion
namespace Go.Proofs.YbulkbobcFmt
open Go.Extern.Stop Go.Stop Go.Extern Go.RowKit

theorem cells2 (w : World) (x y : Value) (e : TypeId) : (w.alloc (.cells #[x, y] e)).cell? ⟨w.heap.size, 0, none⟩ = some x ∧ (w.alloc (.cells #[x, y] e)).cell? ⟨w.heap.size, 1, none⟩ = some y := by constructor <;> simp
theorem cells3 (w : World) (x y z : Value) (e : TypeId) : (w.alloc (.cells #[x, y, z] e)).cell? ⟨w.heap.size, 0, none⟩ = some x ∧ (w.alloc (.cells #[x, y, z] e)).cell? ⟨w.heap.size, 1, none⟩ = some y ∧ (w.alloc (.cells #[x, y, z] e)).cell? ⟨w.heap.size, 2, none⟩ = some z := by refine ⟨?_, ?_, ?_⟩ <;> simp

theorem cell_past {w : World} {a : Addr} {v : Value} (h : w.cell? a = some v) (q : Nat) (o : Obj) : ((w.drewN q).alloc o).cell? a = some v := by
  have hlt := World.block_lt_of_cell? _ _ h
  exact ((((Below.refl w.heap.size w).trans (below_drewN (Below.refl _ _) q)).alloc (by simp) o).cell hlt).trans h

theorem cell_past1 {w : World} {a : Addr} {v : Value} (h : w.cell? a = some v) (o : Obj) : (w.drew.alloc o).cell? a = some v := cell_past h 1 o

set_option maxHeartbeats 400000 in
theorem need_ok (C : Nat) (n size : Int) (w : World) (h4 : w.cell? ⟨C, 4, none⟩ = some (.int .u64 size)) (h5 : w.cell? ⟨C, 5, none⟩ = some (.int .u64 0)) (h0 : 0 ≤ size) (hs : size ≤ 9223372036854775807) (hn : n ≤ size) :
    Calls Ybaf.prog 13 #[.pointer (some ⟨C, 0, none⟩), .int .u64 n] w fun e w' => e = .returned .nilIface ∧ ∃ q, w' = w.drewN q := by
  go_enter Ybaf.func13, Ybaf.ntmps13
  go_wp2
  go_quiet (fail)
  go_wp2
  go_ret
  exact ⟨rfl, _, rfl⟩

set_option maxHeartbeats 1000000 in
theorem need_bad (F : Interp) (C : Nat) (s : ByteArray) (n size : Int) (w : World) (hF : F.answers w.tape) (hC : C < w.heap.size) (hc0 : w.cell? ⟨C, 0, none⟩ = some (.string s)) (h4 : w.cell? ⟨C, 4, none⟩ = some (.int .u64 size)) (h5 : w.cell? ⟨C, 5, none⟩ = some (.int .u64 0)) (h6 : w.cell? ⟨C, 6, none⟩ = some (.int .i64 0))
    (h0 : 0 ≤ size) (hs : size ≤ 9223372036854775807) (hn : size < n) :
    Calls Ybaf.prog 13 #[.pointer (some ⟨C, 0, none⟩), .int .u64 n] w fun e w' => (∃ b, e = .returned (.iface 59 (.pointer (some b)))) ∧ Below w.heap.size w w' := by
  go_enter Ybaf.func13, Ybaf.ntmps13
  go_wp2
  go_quiet (fail)
  go_wp2
  obtain ⟨W, hW⟩ : ∃ W, W = w.drewN nq := ⟨_, rfl⟩
  rw [← hW]
  have hF2 : F.answers W.tape := by rw [hW]; exact hF
  have hC2 : C < W.heap.size := by rw [hW]; exact hC
  have g0 : W.cell? ⟨C, 0, none⟩ = some (.string s) := by rw [hW]; exact hc0
  have g4 : W.cell? ⟨C, 4, none⟩ = some (.int .u64 size) := by rw [hW]; exact h4
  have g5 : W.cell? ⟨C, 5, none⟩ = some (.int .u64 0) := by rw [hW]; exact h5
  have g6 : W.cell? ⟨C, 6, none⟩ = some (.int .i64 0) := by rw [hW]; exact h6
  have HB : Hid (Below w.heap.size w W ∧ w.heap.size ≤ W.heap.size) := ⟨by rw [hW]; exact below_drewN (Below.refl _ _) _, by rw [hW]; exact Nat.le_refl _⟩
  clear hW hF hC hc0 h4 h5 h6
  go_region_with (go_at_call 15; go_must (refine (cerrorfA F C _ s size _ _ ?_ ?_ ?_ ?_).mono ?_); go_must (exact hF2); go_must (exact cell_past1 g6 _); go_must (exact (cells2 _ _ _ _).1); go_must (exact (cells2 _ _ _ _).2); go_must (rintro e w1 ⟨⟨b, rfl⟩, hb1⟩))
  all_goals
    go_wp2
    go_ret
    exact ⟨⟨_, rfl⟩, (HB.out.1.trans ((Below.refl _ _).drew.alloc (by simpa using HB.out.2) _)).trans (hb1.mono (by have := HB.out.2; simp; omega))⟩

end Go.Proofs.YbulkbobcFmt
