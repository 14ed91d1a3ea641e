/-
  The contract of readFull.
-/
import Derived.Test.YbulkbobcFmtSt
namespace Go.Proofs.YbulkbobcFmt
open Go.Extern.Stop Go.Stop Go.Extern Go.RowKit

theorem Ybaf.size5 : (Ybaf.prog.info? 5).map (·.size) = some 1 := by kernel_rfl

/-- 'copy' of the bytes bs into the data cells from j on. -/
theorem copy_data {w : World} {C R : Nat} {run : Value} {used size pos : Int} {ds : List Value} (h : Cont w C R run used size pos ds) (j dl dc b o sl sc : Nat) (bs : List Int) (hbl : bs.length = min sl dl) (hj : j + bs.length ≤ 8)
    (hcell : ∀ i, i < bs.length → w.cell? ⟨b, o + i, none⟩ = some (.int .u8 (bs.getD i 0))) :
    ∃ w', (∀ ty, (Builtin.copy_ #[22, 22] ty #[.slice (some ⟨C, 8 + j, none⟩) dl dc, .slice (some ⟨b, o, none⟩) sl sc]).run Ybaf.prog w = .ok (goInt bs.length) w') ∧ Only w.heap.size [C] w w' ∧
      Cont w' C R run used size pos (ds.take j ++ bs.map (Value.int .u8) ++ ds.drop (j + bs.length)) := by
  have hd := h.setData j (bs.map (Value.int .u8)) (by simpa using hj)
  refine ⟨_, fun ty => ?_, ?_, by simpa using hd⟩
  · have := run_copy_row Ybaf.prog w 22 22 ty 5 C (8 + j) dl dc ⟨b, o, none⟩ sl sc _ 39 (bs.map (Value.int .u8)) Ybaf.underlying22 Ybaf.size5 h.1 (by simpa [Nat.min_def] using hbl) (by
      intro i v hi
      have hil : i < bs.length := by
        rcases Nat.lt_or_ge i bs.length with h | h
        · exact h
        · rw [List.getElem?_eq_none (by simpa using h)] at hi; cases hi
      rw [show (⟨b, o, none⟩ : Addr).add i = ⟨b, o + i, none⟩ from by unfold Addr.add; split <;> simp_all, hcell i hil]
      rw [List.getElem?_map, List.getElem?_eq_getElem hil] at hi
      rw [List.getD_eq_getElem?_getD, List.getElem?_eq_getElem hil]
      simpa using hi) (by have := h.2; simp [contL]; omega) (by intro v hv; simp at hv; obtain ⟨x, _, rfl⟩ := hv; rfl)
    simpa using this
  · simpa using (Only.refl w.heap.size [C] w).setRow (g := C) (by simp) _

set_option maxRecDepth 100000 in
set_option maxHeartbeats 1000000 in
/-- readFull, where the run at hand holds the bytes. -/
theorem full_here (C R b o rc wd : Nat) (xs : List Int) (size pos : Int) (ds : List Value) (w : World)
    (hC : Cont w C R (.slice (some ⟨b, o, none⟩) xs.length rc) 0 size pos ds) (hrc : xs.length ≤ rc) (hxl : xs.length ≤ 2000) (hw : 1 ≤ wd) (hw8 : wd ≤ 8) (hwl : wd ≤ xs.length) (hp : 0 ≤ pos) (hp8 : pos ≤ 100)
    (hcell : ∀ i, i < xs.length → w.cell? ⟨b, o + i, none⟩ = some (.int .u8 (xs.getD i 0))) :
    Calls Ybaf.prog 11 #[.pointer (some ⟨C, 0, none⟩), .slice (some ⟨C, 8, none⟩) wd 8] w fun e w' => e = .returned .nilIface ∧ Only w.heap.size [C] w w' ∧
      Cont w' C R (.slice (some ⟨b, o, none⟩) xs.length rc) wd size (pos + wd) ((xs.take wd).map (Value.int .u8) ++ ds.drop wd) := by
  obtain ⟨q0, q1, q2, q3, q4, q5, q6⟩ := hC.cells
  have hl : (xs.take wd).length = wd := by simp; omega
  go_enter Ybaf.func11, Ybaf.ntmps11
  go_wp2
  go_quiet (fail)
  go_wp2
  obtain ⟨W, hW⟩ : ∃ W, W = w.drewN nq := ⟨_, rfl⟩
  have hCW : Cont W C R (.slice (some ⟨b, o, none⟩) xs.length rc) 0 size pos ds := by rw [hW]; exact hC.keep rfl
  have HO : Hid (Only w.heap.size [C] w W) := by rw [hW]; exact (Only.refl _ _ _).drewN _
  have hcW : ∀ i, i < xs.length → W.cell? ⟨b, o + i, none⟩ = some (.int .u8 (xs.getD i 0)) := by rw [hW]; exact hcell
  rw [← hW]
  clear hW hC q0 q1 q2 q3 q4 q5 q6 hcell
  obtain ⟨q0, q1, q2, q3, q4, q5, q6⟩ := hCW.cells
  obtain ⟨w2, hcp, ho2, hC2⟩ := copy_data (w := W.drew) (hCW.keep rfl) 0 wd 8 b o xs.length rc (xs.take wd) (by rw [hl]; omega) (by omega) (by
    intro i hi
    rw [hl] at hi
    have := hcW i (by omega)
    rw [show (xs.take wd).getD i 0 = xs.getD i 0 from by rw [List.getD_eq_getElem?_getD, List.getD_eq_getElem?_getD, List.getElem?_take_of_lt hi]]
    exact this)
  rw [hl] at hcp
  obtain ⟨p0, p1, p2, p3, p4, p5, p6⟩ := hC2.cells
  have g3 := hC2.free 3
  have g5 := hC2.free 5
  have HC2 : Hid (Cont w2 C R (.slice (some ⟨b, o, none⟩) xs.length rc) 0 size pos ((xs.take wd).map (Value.int .u8) ++ ds.drop wd)) := by
    have := hC2
    rw [hl] at this
    unfold Hid
    simpa using this
  have HO2 : Hid (Only w.heap.size [C] w w2) := HO.out.drew.trans (ho2.mono (by simpa using HO.out.size))
  clear hcW hCW hC2 ho2 hl
  go_region
  go_wp2
  go_ret
  refine ⟨rfl, ?_, ?_⟩
  · exact ((HO2.out.setCell (p := ⟨C, 3, none⟩) (by simp) _).setCell (p := ⟨C, 5, none⟩) (by simp) _)
  · exact Cont.setPos (Cont.setUsed HC2.out _) _

set_option maxHeartbeats 1000000 in
/-- readFull, where the run at hand lacks bytes and the stated size too. -/
theorem full_bad (F : Interp) (C R rl rc wd : Nat) (ra : Option Addr) (size : Int) (ds : List Value) (w : World) (hF : F.answers w.tape)
    (hC : Cont w C R (.slice ra rl rc) 0 size 0 ds) (hrl : rl ≤ 2000) (hw8 : wd ≤ 8) (hwl : rl < wd) (h0 : 0 ≤ size) (hs : size < wd) :
    Calls Ybaf.prog 11 #[.pointer (some ⟨C, 0, none⟩), .slice (some ⟨C, 8, none⟩) wd 8] w fun e w' => (∃ x, e = .returned (.iface 59 (.pointer (some x)))) ∧ Below w.heap.size w w' := by
  obtain ⟨q0, q1, q2, q3, q4, q5, q6⟩ := hC.cells
  have hCl := hC.lt
  clear hC
  go_enter Ybaf.func11, Ybaf.ntmps11
  go_wp2
  go_quiet (fail)
  go_wp2_with fail
  refine (need_bad F C ⟨#[108, 105, 115, 116, 112, 97, 99, 107]⟩ _ size _ ?_ ?_ ?_ ?_ ?_ ?_ h0 (by omega) hs).mono ?_
  · exact hF
  · simpa using hCl
  · exact q0
  · exact q4
  · exact q5
  · exact q6
  rintro e w1 ⟨⟨x, rfl⟩, hb1⟩
  go_wp2
  go_ret
  exact ⟨⟨x, rfl⟩, (below_drewN (Below.refl _ _) _).trans (hb1.mono (by simp))⟩

end Go.Proofs.YbulkbobcFmt
