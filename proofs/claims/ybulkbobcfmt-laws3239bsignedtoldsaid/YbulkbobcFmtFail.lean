/-
  The contracts of fail and nextRun.
-/
import Derived.Test.YbulkbobcFmtNeed
import Derived.Deep.RegionHeld3
import Derived.LaidEql
namespace Go.Proofs.YbulkbobcFmt
open Go.Extern.Stop Go.Stop Go.Extern Go.RowKit

theorem Ybaf.comp65 : (Ybaf.prog.info? 65).map (·.comparable) = some true := by kernel_rfl
theorem Ybaf.size67 : (Ybaf.prog.info? 67).map (·.size) = some 1 := by kernel_rfl

set_option maxHeartbeats 1000000 in
theorem fail_eof (F : Interp) (C : Nat) (s : ByteArray) (size pos : Int) (ea : Addr) (w : World) (hF : F.answers w.tape) (hC : C < w.heap.size) (he : w.cell? ⟨1, 0, none⟩ = some (.iface 65 (.pointer (some ea))))
    (hc0 : w.cell? ⟨C, 0, none⟩ = some (.string s)) (h4 : w.cell? ⟨C, 4, none⟩ = some (.int .u64 size)) (h5 : w.cell? ⟨C, 5, none⟩ = some (.int .u64 pos)) (h6 : w.cell? ⟨C, 6, none⟩ = some (.int .i64 0)) :
    Calls Ybaf.prog 16 #[.pointer (some ⟨C, 0, none⟩), .iface 65 (.pointer (some ea))] w fun e w' => (∃ b, e = .returned (.iface 59 (.pointer (some b)))) ∧ Below w.heap.size w w' := by
  obtain ⟨i, hi, hcmp⟩ := Option.map_eq_some_iff.1 Ybaf.comp65
  obtain ⟨j, hj, _⟩ := Option.map_eq_some_iff.1 Ybaf.size67
  go_enter Ybaf.func16, Ybaf.ntmps16
  go_wp2
  rw [run_eql_iface_ptr_same w ea Ybaf.underlying32 Ybaf.underlying65 hi hcmp hj]
  clear hi hcmp hj he
  go_wp2
  go_region_held3 (fun w' => w'.cell? ⟨C, 0, none⟩ = some (.string s) ∧ w'.cell? ⟨C, 4, none⟩ = some (.int .u64 size) ∧ w'.cell? ⟨C, 5, none⟩ = some (.int .u64 pos)) (go_keep)
    (first | (go_at_call 15; refine (cerrorfB F C _ s pos size _ _ ?_ ?_ ?_ ?_ ?_).mono ?_; exact hF; exact cell_past1 h6 _; exact (cells3 _ _ _ _ _).1; exact (cells3 _ _ _ _ _).2.1; exact (cells3 _ _ _ _ _).2.2; rintro e w1 ⟨⟨b, rfl⟩, hb1⟩; have k0 := (hb1.cell (p := ⟨C, 0, none⟩) (by simp; omega)).trans (cell_past1 hc0 _); have k4 := (hb1.cell (p := ⟨C, 4, none⟩) (by simp; omega)).trans (cell_past1 h4 _); have k5 := (hb1.cell (p := ⟨C, 5, none⟩) (by simp; omega)).trans (cell_past1 h5 _)))
  all_goals
    go_wp2
    go_ret
    exact ⟨⟨_, rfl⟩, ((Below.refl _ _).drew.alloc (by simp) _).trans (hb1.mono (by simp))⟩

end Go.Proofs.YbulkbobcFmt
