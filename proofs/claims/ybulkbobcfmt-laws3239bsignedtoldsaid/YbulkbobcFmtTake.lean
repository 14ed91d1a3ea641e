/-
  The contract of take.
-/
import Derived.Test.YbulkbobcFmtNext
namespace Go.Proofs.YbulkbobcFmt
open Go.Extern.Stop Go.Stop Go.Extern Go.RowKit

/-- The method's name, as the dump spells it. -/
def nrName : String := String.ofList ([101, 120, 97, 109, 112, 108, 101, 46, 99, 111, 109, 47, 100, 117, 109, 112, 108, 101, 110, 115, 47, 100, 117, 109, 112, 108, 101, 110, 115, 47, 112, 107, 103, 47, 114, 100, 98, 46, 110, 101, 120, 116, 82, 117, 110].map Char.ofNat)
theorem method28 (n : String) (h : n = nrName) (a : Addr) (w : World) : (method 194 28 (.pointer (some a)) n).run Ybaf.prog w = .ok (37, .pointer (some a)) w := by
  subst h; kernel_rfl

set_option maxRecDepth 100000 in
set_option maxHeartbeats 1000000 in
/-- take, where there is more in the run at hand. -/
theorem take_here (C R b o rl rc u n m : Nat) (size pos : Int) (ds : List Value) (w : World)
    (hC : Cont w C R (.slice (some ⟨b, o, none⟩) rl rc) u size pos ds) (hu : u < rl) (hrc : rl ≤ rc) (hrl : rl ≤ 2000) (hn : 1 ≤ n) (hn8 : n ≤ 8) (hm : m = min n (rl - u)) (hp : 0 ≤ pos) (hp8 : pos ≤ 100) :
    Calls Ybaf.prog 14 #[.pointer (some ⟨C, 0, none⟩), .int .u64 n] w fun e w' => e = .returned (.tuple #[.slice (some ⟨b, o + u, none⟩) m (rc - u), .nilIface]) ∧ Only w.heap.size [C] w w' ∧ Cont w' C R (.slice (some ⟨b, o, none⟩) rl rc) (u + m : Nat) size (pos + m) ds := by
  obtain ⟨q0, q1, q2, q3, q4, q5, q6⟩ := hC.cells
  have f2 := hC.free 2
  have f3 := hC.free 3
  have f5 := hC.free 5
  have hbb : ((u : Int) == (rl : Int)) = false := by rw [beq_eq_false_iff_ne]; omega
  have HM : Hid (m = min n (rl - u)) := hm
  clear hm
  go_enter Ybaf.func14, Ybaf.ntmps14
  go_wp2
  go_quiet (fail)
  go_wp2
  rcases Nat.lt_or_ge (rl - u) n with hge | hlt
  rotate_left
  · obtain rfl : m = n := by have := HM.out; omega
    clear HM
    have e1 : ((m : Int) ≤ (rl : Int) - (u : Int)) := by omega
    have e2 : (0 : Int) ≤ (u : Int) + (m : Int) := by omega
    have e3 : (u : Int) + (m : Int) ≤ (rl : Int) := by omega
    have e4 : (u : Int) + (m : Int) ≤ (rc : Int) := by omega
    go_quiet (fail)
    go_wp2
    go_ret2
    refine ⟨?_, ?_, ?_⟩
    · show Ending.returned (.tuple #[.slice (some ⟨b, o + u, none⟩) (u + m - u) (rc - u), .nilIface]) = _
      rw [Nat.add_sub_cancel_left]
    · repeat (first | exact Only.refl _ _ _ | apply Only.drewN | apply Only.drew | refine Only.setCell ?_ (by simp) _)
    · rw [show ((u + m : Nat) : Int) = (u : Int) + (m : Int) from by omega]
      exact Cont.setPos (Cont.setUsed (hC.keep rfl) _) _
  · have hmm : u + m = rl := by have := HM.out; omega
    have e5 : (rl : Int) - (u : Int) < (n : Int) := by omega
    have HMM : Hid (u + m = rl) := hmm
    clear hmm HM
    go_quiet (fail)
    go_wp2
    rw [show rl - u = m from by have := HMM.out; omega, Nat.add_sub_cancel_left]
    go_ret2
    refine ⟨rfl, ?_, ?_⟩
    · repeat (first | exact Only.refl _ _ _ | apply Only.drewN | apply Only.drew | refine Only.setCell ?_ (by simp) _)
    · rw [show ((u + m : Nat) : Int) = (u : Int) + (m : Int) from by omega]
      exact Cont.setPos (Cont.setUsed (hC.keep rfl) _) _

end Go.Proofs.YbulkbobcFmt
