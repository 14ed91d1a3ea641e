/-
  The contract of nextRun.
-/
import Derived.Test.YbulkbobcFmtFail
namespace Go.Proofs.YbulkbobcFmt
open Go.RowKit

theorem Runs.at {B : Nat} {S : List Nat} {w : World} {g : Nat} {vs : List Value} {xss : List (List Int)} (h : Runs B S w g vs xss) (i : Nat) (hi : i < xss.length) :
    ∃ a c, w.cell? ⟨g, i, none⟩ = some (.slice a (xss.getD i []).length c) ∧ Run B S w (.slice a (xss.getD i []).length c) (xss.getD i []) := by
  have hv : i < vs.length := by rw [h.2.2.1]; exact hi
  obtain ⟨h1, h2⟩ := h.2.2.2 i hv hi
  have e : xss.getD i [] = xss[i] := by rw [List.getD_eq_getElem?_getD, List.getElem?_eq_getElem hi]; rfl
  obtain ⟨a, c, hac⟩ := h2.len
  rw [e]
  exact ⟨a, c, by rw [h1, hac], by rw [← hac]; exact h2⟩

set_option maxHeartbeats 1000000 in
/-- nextRun: the next run that is not empty; or io.EOF. -/
theorem nextRun_any (R g cap k : Nat) (calls : Int) (eof : Value) (vs : List Value) (xss : List (List Int)) (w : World)
    (hR : Rd w R g xss.length cap k calls) (hk : k ≤ xss.length) (hm : xss.length ≤ 2000) (B : Nat) (S : List Nat) (hRS : R ∈ S) (hB : B ≤ w.heap.size) (hr : Runs B S w g vs xss) (he : w.cell? ⟨1, 0, none⟩ = some eof) (hR1 : R ≠ 1) :
    Calls Ybaf.prog 37 #[.pointer (some ⟨R, 0, none⟩)] w fun e w' => ∃ (k' : Nat) (calls' : Int), Only w.heap.size [R] w w' ∧ Rd w' R g xss.length cap k' calls' ∧
      ((∃ j a c, k ≤ j ∧ j < xss.length ∧ k' = j + 1 ∧ (∀ i, k ≤ i → i < j → xss.getD i [] = []) ∧ 0 < (xss.getD j []).length ∧ Run B S w (.slice a (xss.getD j []).length c) (xss.getD j []) ∧ e = .returned (.tuple #[.slice a (xss.getD j []).length c, .nilIface])) ∨
       (k' = xss.length ∧ (∀ i, k ≤ i → i < xss.length → xss.getD i [] = []) ∧ e = .returned (.tuple #[.slice none 0 0, eof]))) := by
  obtain ⟨r0, r1, r2⟩ := hR.cells
  have f1 := hR.free 1
  have f2 := hR.free 2
  have hb1 : 1 < w.heap.size := World.block_lt_of_cell? _ _ he
  go_enter Ybaf.func37, Ybaf.ntmps37
  go_wp2
  go_loopg [4] (xss.length - k) (fun n _ wr => ∃ (k2 : Nat) (calls2 : Int), k ≤ k2 ∧ k2 ≤ xss.length ∧ n = xss.length - k2 ∧ Only w.heap.size [R] w wr ∧ Rd wr R g xss.length cap k2 calls2 ∧ ∀ i, k ≤ i → i < k2 → xss.getD i [] = [])
  case atStart => exact ⟨k, _, Nat.le_refl _, hk, rfl, (Only.refl _ _ _).setCell (by simp) _, hR.setCalls _, fun i h1 h2 => by omega⟩
  case round =>
    obtain ⟨k2, calls2, hk2, hk2m, hgk, ho, hRd, hE⟩ := hrel
    have HE : Hid (∀ i, k ≤ i → i < k2 → xss.getD i [] = []) := hE
    have HG : Hid (gk = xss.length - k2) := hgk
    clear hE hgk r0 r1 r2 f1 f2
    obtain ⟨q0, q1, q2⟩ := hRd.cells
    have f1 := hRd.free 1
    have hee : wr.cell? ⟨1, 0, none⟩ = some eof := (ho.cell (p := ⟨1, 0, none⟩) hb1 (by simpa using Ne.symm hR1)).trans he
    by_cases hlt : k2 < xss.length
    · obtain ⟨a, c, hca, hrun⟩ := hr.at k2 hlt
      have hgx : wr.cell? ⟨g, k2, none⟩ = some (.slice a (xss.getD k2 []).length c) := (ho.cell (p := ⟨g, k2, none⟩) (Nat.lt_of_lt_of_le hr.1 hB) (by intro e; rw [List.mem_singleton] at e; exact hr.2.1 (by rw [show g = R from e]; exact hRS))).trans hca
      generalize hl : (xss.getD k2 []).length = l at *
      have HL : Hid (_ = _) := hl
      clear hl hca
      by_cases hl0 : 0 < l
      · go_wp2
        go_quiet (fail)
        go_wp2
        go_quiet (fail)
        go_wp2
        go_ret2
        refine ⟨k2 + 1, calls2, ?_, ?_, .inl ⟨k2, a, c, hk2, hlt, rfl, HE.out, by rw [HL.out]; exact hl0, by rw [HL.out]; exact hrun, by rw [HL.out]; rfl⟩⟩
        · repeat (first | exact ho | apply Only.drewN | apply Only.drew | refine Only.setCell ?_ (by simp) _)
        · exact Rd.setK (hRd.keep rfl) _
      · have hl1 : l = 0 := by omega
        go_wp2
        go_quiet (fail)
        go_wp2
        go_quiet (fail)
        go_wp2
        go_roundg (xss.length - (k2 + 1))
        case rel =>
          refine ⟨k2 + 1, calls2, by omega, by omega, rfl, ?_, ?_, ?_⟩
          · repeat (first | exact ho | apply Only.drewN | apply Only.drew | refine Only.setCell ?_ (by simp) _)
          · exact Rd.setK (hRd.keep rfl) _
          · intro i h1 h2
            by_cases e : i = k2
            · subst e; exact List.eq_nil_of_length_eq_zero (by rw [HL.out]; exact hl1)
            · exact HE.out i h1 (by omega)
        case measure => rw [HG.out]; omega
    · go_wp2
      go_quiet (fail)
      go_wp2
      go_quiet (fail)
      go_wp2
      go_ret2
      exact ⟨k2, calls2, by repeat (first | exact ho | apply Only.drewN), hRd.keep rfl, .inr ⟨by omega, fun i h1 h2 => HE.out i h1 (by omega), rfl⟩⟩

end Go.Proofs.YbulkbobcFmt
