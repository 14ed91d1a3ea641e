/- What law B's first argument is, read off its reading. -/
import Derived.Test.YbulkbofkPre
import Derived.WalkKit
import Derived.ProofKit
import Derived.OpenShut
import Derived.Deep.Slices
namespace Go.Proofs.Ybulkbofk
open Go.ChangeShapes Go.WideShapes Go.ChangeAt Go.RowKit

theorem Yba.cells5 : Yba.prog.cellsOf 5 = 1 := by kernel_rfl
theorem Yba.cells59 : Yba.prog.cellsOf 59 = 1 := by kernel_rfl
theorem Yba.cells2 : Yba.prog.cellsOf 2 = 1 := by kernel_rfl
theorem Yba.cells61 : Yba.prog.cellsOf 61 = 3 := by kernel_rfl

section
variable {H : Type} {enc : TypeId × Value → H} {w : World} {base : Nat} {spare : Nat → Bool} {held : Bool}

/-- The hosts of one element. -/
theorem open_hosts {fuel : Nat} {cs : List Value} {x : DataW H × List MemPlace} (h : DataW.trod enc Yba.prog w base spare held fuel 59 cs = some x) :
    ∃ (a : Option Addr) (c : Nat) (hs : List Nat), cs = [.slice a hs.length c] ∧ (∀ j, j < hs.length → ∃ g' o', a = some ⟨g', o', none⟩ ∧ g' < w.heap.size ∧ w.cell? ⟨g', o' + j, none⟩ = some (.int .u8 (hs.getD j 0 : Nat))) ∧ (∀ y ∈ hs, y ≤ 255) ∧ hs.length ≤ 9223372036854775807 := by
  rcases open_ints Yba.underlying59 Yba.underlying5 Yba.cells5 h with ⟨rfl, _⟩ | ⟨a, len, cap, zs, rfl, _, hl, hm, hz, _, hcell, hwz⟩
  · exact ⟨none, 0, [], rfl, fun j hj => absurd hj (Nat.not_lt_zero _), by simp, by simp⟩
  · have hle : len ≤ zs.length := by rw [hz]; split <;> omega
    have hln : ((zs.take len).map Int.toNat).length = len := by simp; omega
    refine ⟨some a, cap, (zs.take len).map Int.toNat, by rw [hln], fun j hj => ?_, fun y hy => ?_, ?_⟩
    · rw [hln] at hj
      obtain ⟨b, off, rfl, hcc⟩ := ints_at hcell (by omega)
      have hj' := hcc j (by omega)
      refine ⟨b, off, rfl, World.block_lt_of_cell? w _ hj', ?_⟩
      rw [hj']
      have hb := bounds_u8 (hwz (zs.getD j 0) (by
        rw [List.getD_eq_getElem?_getD, List.getElem?_eq_getElem (by omega)]
        exact List.getElem_mem _))
      have e : ((zs.take len).map Int.toNat).getD j 0 = (zs.getD j 0).toNat := by
        simp only [List.getD_eq_getElem?_getD, List.getElem?_map, List.getElem?_take_of_lt hj]
        rw [List.getElem?_eq_getElem (by omega)]
        rfl
      rw [e]
      congr 2
      omega
    · obtain ⟨z, hz', rfl⟩ := List.mem_map.1 hy
      have := bounds_u8 (hwz z (List.mem_of_mem_take hz'))
      omega
    · rw [hln]
      unfold maxLen at hm
      omega

theorem open_src {fuel : Nat} {cs : List Value} {x : DataW H × List MemPlace} (h : DataW.trod enc Yba.prog w base spare held fuel 58 cs = some x) :
    ∃ a n c, cs = [.slice a n c] ∧ n ≤ 9223372036854775807 ∧ SrcB w a n := by
  rcases Go.Deep.open_slice Yba.underlying58 h with ⟨rfl, _⟩ | ⟨a, len, cap, m, fu, D, Pl, rfl, _, hl, hm, hmm, _, hel⟩
  · exact ⟨none, 0, 0, rfl, by simp, fun h0 => absurd h0 (Nat.lt_irrefl _)⟩
  · refine ⟨some a, len, cap, rfl, by unfold maxLen at hm; omega, fun h0 => ?_⟩
    have hlm : len ≤ m := by rw [hmm]; split <;> omega
    rw [Yba.cells61] at hel
    obtain ⟨g, o, spot⟩ := a
    have hspot : spot = none := by
      obtain ⟨cs', h1, _⟩ := hel 0 (by omega)
      obtain ⟨_, hlen, hc⟩ := World.cells?_some h1
      have := hc 0 (by decide)
      rw [List.getElem?_eq_getElem (by omega)] at this
      simpa [Addr.add] using World.cell?_spot this
    subst hspot
    have hcells : ∀ i, i < len → ∃ v0 v1 v2, w.cell? ⟨g, o + i * 3, none⟩ = some v0 ∧ w.cell? ⟨g, o + i * 3 + 1, none⟩ = some v1 ∧ w.cell? ⟨g, o + i * 3 + 2, none⟩ = some v2 ∧ DataW.trod enc Yba.prog w base spare held fu 61 [v0, v1, v2] = some (D i, Pl i) := fun i hi => by
      obtain ⟨cs', h1, h2⟩ := hel i (by omega)
      obtain ⟨_, hlen, hc⟩ := World.cells?_some h1
      match cs', hlen with
      | [v0, v1, v2], _ =>
        have q0 := hc 0 (by decide)
        have q1 := hc 1 (by decide)
        have q2 := hc 2 (by decide)
        rw [add_plain, add_plain] at q0 q1 q2
        exact ⟨v0, v1, v2, by simpa using q0, by simpa using q1, by simpa using q2, h2⟩
    refine ⟨g, o, rfl, ?_, fun i hi => ?_⟩
    · obtain ⟨v0, _, _, q0, _⟩ := hcells 0 h0
      exact World.block_lt_of_cell? w _ q0
    · obtain ⟨v0, v1, v2, q0, q1, q2, ht⟩ := hcells i hi
      obtain ⟨xs, n, _, _, _, hlen, hf⟩ := DataW.trod_struct Yba.underlying61 ht
      have hlen3 : xs.length = 3 := by simpa using hlen
      have f0 := hf 0 _ rfl
      have f1 := hf 1 _ rfl
      have f2 := hf 2 _ rfl
      rw [List.getElem?_eq_getElem (by omega)] at f0 f1 f2
      simp [Yba.cells5, Yba.cells59, Yba.cells2] at f0 f1 f2
      obtain ⟨x0, e0, _, w0⟩ := DataW.trod_int Yba.underlying5 f0
      obtain ⟨a', c', hs, e1, hc, hh, hhl⟩ := open_hosts f1
      obtain ⟨lp, e2, _, w2⟩ := DataW.trod_int Yba.underlying2 f2
      have b0 := bounds_u8 w0
      have b2 := bounds_i64 w2
      obtain rfl : v0 = .int .u8 x0 := by simpa using e0
      obtain rfl : v1 = .slice a' hs.length c' := by simpa using e1
      obtain rfl : v2 = .int .i64 lp := by simpa using e2
      exact ⟨x0.toNat, hs, lp, a', c', by rw [q0]; congr 2; omega, q1, q2, by omega, b2, hc, hh, hhl⟩

end
end Go.Proofs.Ybulkbofk
