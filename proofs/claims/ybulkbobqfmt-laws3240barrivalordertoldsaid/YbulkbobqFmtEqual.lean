/-
  The contract of slices.Equal on equal records; Hold; Release.
-/
import Derived.Test.YbulkbobqFmtTake
import Derived.Laws.StructEq
import Derived.BigQuiet
namespace Go.Proofs.YbulkbobqFmt
open Go.RowKit

theorem Recs.form {base : Nat} {w : World} {v : Value} {rs : List (Nat × Int)} (h : Recs base w v rs) : ∃ a c, v = .slice a rs.length c := by
  rcases h.2 with ⟨rfl, h0⟩ | ⟨g, cap, cur, rfl, _⟩
  · exact ⟨none, 0, by rw [h0]⟩
  · exact ⟨_, _, rfl⟩
theorem recs_get (rs : List (Nat × Int)) (i : Nat) (h : i < rs.length) : (rs.map recCells).flatten[i * 2]? = some (.int .i64 rs[i].1) ∧ (rs.map recCells).flatten[i * 2 + 1]? = some (.int .u64 rs[i].2) := by
  induction rs generalizing i with
  | nil => simp at h
  | cons r rs ih =>
    rcases i with _ | i
    · simp [recCells]
    · have := ih i (by simpa using h)
      simp only [List.map_cons, List.flatten_cons, recCells, List.cons_append, List.nil_append, List.getElem_cons_succ]
      rw [show (i + 1) * 2 = i * 2 + 1 + 1 from by omega]
      simpa [recCells] using this
theorem Recs.at {base : Nat} {w : World} {v : Value} {rs : List (Nat × Int)} (h : Recs base w v rs) (i : Nat) (hi : i < rs.length) : ∃ g c, v = .slice (some ⟨g, 0, none⟩) rs.length c ∧ rs.length ≤ c ∧ w.cell? ⟨g, i * 2, none⟩ = some (.int .i64 rs[i].1) ∧ w.cell? ⟨g, i * 2 + 1, none⟩ = some (.int .u64 rs[i].2) := by
  have hg := recs_get rs i hi
  rcases h.2 with ⟨_, h0⟩ | ⟨g, cap, cur, rfl, hb, hc, h1, h2, h3, h4⟩
  · omega
  · refine ⟨g, cap, rfl, h1, ?_, ?_⟩
    · rw [← h4, List.getElem?_take_of_lt (by omega), Array.getElem?_toList] at hg
      simp [World.cell?, hc, hg.1]
    · rw [← h4, List.getElem?_take_of_lt (by omega), List.getElem?_take_of_lt (by omega), Array.getElem?_toList, Array.getElem?_toList] at hg
      simp [World.cell?, hc, hg.2]

set_option maxHeartbeats 1000000 in
theorem equal_any (base : Nat) (v u : Value) (rs : List (Nat × Int)) (w : World) (h1 : Recs base w v rs) (h2 : Recs base w u rs) (hl : rs.length ≤ 1000000) :
    Calls Ybaf.prog 11 #[v, u] w fun e w' => e = .returned (.bool true) ∧ ∃ q, w' = w.drewN q := by
  obtain ⟨a1, c1, rfl⟩ := h1.form
  obtain ⟨a2, c2, rfl⟩ := h2.form
  go_enter Ybaf.func11, Ybaf.ntmps11
  go_wp2_with fail
  go_loopw [13] (fun i wr => ∃ (k q : Nat), i = .int .i64 k ∧ k ≤ rs.length ∧ wr = w.drewN q) (fun i _ => rs.length - (intOf i).toNat)
  case atStart => exact ⟨0, 0, rfl, Nat.zero_le _, rfl⟩
  case round =>
    obtain ⟨k, q, rfl, hk, rfl⟩ := hrel
    by_cases hkl : k < rs.length
    · obtain ⟨g1, d1, e1, f1, x1, y1⟩ := h1.at k hkl
      obtain ⟨g2, d2, e2, f2, x2, y2⟩ := h2.at k hkl
      simp only [Value.slice.injEq, true_and] at e1 e2
      obtain ⟨rfl, rfl⟩ := e1
      obtain ⟨rfl, rfl⟩ := e2
      generalize rs[k].1 = rp at *
      generalize rs[k].2 = rq at *
      have hkl2 : (k : Int) < rs.length := by omega
      clear h1 h2
      go_upto_region 6 with fail
      go_quiet (fail)
      go_wp2
      go_roundw
      case rel => exact ⟨k + 1, _, rfl, by omega, rfl⟩
      case measure => simp [intOf]; omega
    · obtain rfl : k = rs.length := by omega
      clear h1 h2
      go_wp2
      go_ret
      exact ⟨rfl, _, rfl⟩

set_option maxHeartbeats 400000 in
theorem hold7_any (x : Cx) (w : World) (k : Nat) (u : Value) (ws : List (Nat × Int)) (σ : PS) (h : Al x w false k u ws σ) : Calls Ybaf.prog 7 #[.pointer (some ⟨x.O, 0, none⟩)] w fun e w' => e = .returned (.tuple #[]) ∧ Al x w' true k u ws σ := by
  obtain ⟨l, scr, ho⟩ := h.ob
  have c26 : w.cell? ⟨x.O, 26, none⟩ = some (.bool false) := ho.at 26
  have f26 := ho.free 26
  have HA : Hid (Al x (w.setCell ⟨x.O, 26, none⟩ (.bool true)) true k u ws σ) := h.cell (fun l scr ho => ho.setBarred _) h.hs
  clear ho h
  go_enter Ybaf.func7, Ybaf.ntmps7
  go_wp2
  go_end0
  exact ⟨rfl, HA.out⟩

set_option maxHeartbeats 400000 in
theorem release10_any (x : Cx) (g : Nat) (R : Nat) (u : Value) (ws : List (Nat × Int)) (hg : Back x u ws g) (w : World) (σ : PS) (h : Al x w true σ.rs.length u ws σ) (hi : Inv R σ) (hR : R ≤ 2000) :
    Calls Ybaf.prog 10 #[.pointer (some ⟨x.O, 0, none⟩), .func (.func g) #[] #[.pointer (some ⟨x.C, 0, none⟩)]] w fun e w' => e = .returned (.tuple #[]) ∧ St x u ws R w' (rel x σ) := by
  obtain ⟨l, scr, ho⟩ := h.ob
  have c26 : w.cell? ⟨x.O, 26, none⟩ = some (.bool true) := ho.at 26
  have f26 := ho.free 26
  have HA : Hid (St x u ws R (w.setCell ⟨x.O, 26, none⟩ (.bool false)) σ) := ⟨h.cell (fun l scr ho => ho.setBarred _) h.hs, hi⟩
  clear ho h hi
  go_enter Ybaf.func10, Ybaf.ntmps10
  go_wp2_with fail
  refine (release_any x g R u ws hg _ σ HA.out hR).mono ?_
  rintro e w' ⟨rfl, hS⟩
  have HS : Hid (St x u ws R w' (rel x σ)) := hS
  clear hS
  go_wp2
  go_end0
  exact ⟨rfl, HS.out⟩

end Go.Proofs.YbulkbobqFmt
