/-
  Held, Delivered, Hold.
-/
import Derived.Test.YbulkbobqFmtPush
namespace Go.Proofs.YbulkbobqFmt
open Go.RowKit

section
variable {O : Nat} {s : OS} {l holding holders : Int} {scr : Value} {fifo barred : Bool} {w : World}
set_option maxHeartbeats 400000 in
theorem held_any (hO : Ob w O s l holding holders scr fifo barred) : Calls Ybaf.prog 9 #[.pointer (some ⟨O, 0, none⟩)] w fun e w' => e = .returned (.int .i64 holding) ∧ w' = w := by
  have q : w.cell? ⟨O, 12, none⟩ = some (.int .i64 holding) := hO.at 12
  go_enter Ybaf.func9, Ybaf.ntmps9
  go_wp2
  go_ret
  exact ⟨rfl, rfl⟩

set_option maxHeartbeats 400000 in
theorem delivered_any {ds : List Int} (hO : Ob w O s l holding holders scr fifo barred) (hD : Drow w s.D ds) (hl : ds.length = s.n) (p : Nat) (hp : p < s.n) : Calls Ybaf.prog 12 #[.pointer (some ⟨O, 0, none⟩), .int .i64 p] w fun e w' => e = .returned (.int .u64 (ds.getD p 0)) ∧ w' = w := by
  have q : w.cell? ⟨O, 8, none⟩ = some (.slice (some ⟨s.D, 0, none⟩) s.n s.cD) := hO.at 8
  have c := (hD.cell p (by omega)).1
  have e : ds.getD p 0 = ds[p]'(by omega) := by rw [List.getD_eq_getElem?_getD, List.getElem?_eq_getElem (by omega)]; rfl
  rw [e]
  generalize ds[p]'(by omega) = z at c
  go_enter Ybaf.func12, Ybaf.ntmps12
  go_wp2
  go_ret
  exact ⟨rfl, rfl⟩
end

end Go.Proofs.YbulkbobqFmt
