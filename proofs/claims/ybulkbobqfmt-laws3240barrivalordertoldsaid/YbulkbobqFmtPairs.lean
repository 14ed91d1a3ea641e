/-
  The contract of resizePairs at a group that was empty.
-/
import Derived.Test.YbulkbobqFmtAl
import Derived.Laws.MakeOwn
namespace Go.Proofs.YbulkbobqFmt
open Go.RowKit

theorem Ybaf.info26 : (Ybaf.prog.info? 26).map (fun i => (i.zero, i.size, i.bytes)) = some (some (.int .u64 0), 1, 8) := by kernel_rfl

def PairsPost (w : World) (e : Ending) (w' : World) : Prop := ∃ c cur, e = .returned (.slice (some ⟨w.heap.size, 0, none⟩) c c) ∧ w' = w.alloc (.cells cur 26)

set_option maxHeartbeats 1000000 in
theorem pairs_any (n : Nat) (h8 : n ≤ 8) (v : Value) (w : World) :
    Calls Ybaf.prog 22 #[v, .int .i64 0, .int .i64 n] w (PairsPost w) := by
  obtain ⟨i0, hi, hz, hz1, hz2⟩ := info_split Ybaf.info26
  obtain ⟨c, hc, hc8⟩ : ∃ c : Nat, ((n : Int) * (n : Int)) = (c : Int) ∧ c ≤ 64 := ⟨n * n, by simp, Nat.mul_le_mul h8 h8⟩
  have hmk : (Instr.makeSlice 50 (.int .i64 (c : Int)) (.int .i64 (c : Int))).run Ybaf.prog w = .ok (.slice (some ⟨w.heap.size, 0, none⟩) c c) (w.alloc (.cells (madeCells (Value.int .u64 0).cells (c * 1)) 26)) := by
    have hr := run_make (P := Ybaf.prog) w 50 26 i0 (.int .u64 0) Ybaf.underlying50 hi hz .i64 .i64 (c : Int) (c : Int) (by omega) (Int.le_refl _) (by rw [hz2]; omega) (by omega)
    rw [hz1] at hr
    simpa using hr
  go_enter Ybaf.func22, Ybaf.ntmps22
  go_wp2
  go_loop [14] (fun i => i = .int .i64 0) (fun _ => 0)
  case atStart => rfl
  case round =>
    obtain rfl := hrel
    go_wp2
    go_ret
    exact ⟨_, _, rfl, rfl⟩

end Go.Proofs.YbulkbobqFmt
