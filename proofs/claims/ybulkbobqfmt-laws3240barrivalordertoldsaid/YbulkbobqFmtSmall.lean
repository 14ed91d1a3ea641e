/-
  The small functions: Has, Without, TrailingZeros64, Len, the closure of compact; the log slices.
-/
import Derived.Test.YbulkbobqFmtMem
import Derived.Laws.Bits64b
import Derived.Lib.TrailingZeros
import Derived.BigQuiet
import Derived.BigRegion
import Derived.Deep.RegionWith
import Derived.Deep.LoopGhost
import Derived.Deep.RegionHeld3
namespace Go.Proofs.YbulkbobqFmt
open Go.RowKit

theorem wrap_range (x : Int) : 0 ≤ IntKind.u64.wrap x ∧ IntKind.u64.wrap x < 18446744073709551616 := by
  rw [IntKind.wrap_u64]; omega
theorem bits_range (op : BinOp) (x y : Int) : 0 ≤ bits op .u64 x y ∧ bits op .u64 x y < 18446744073709551616 := by
  unfold bits
  split <;> exact wrap_range _

set_option maxHeartbeats 400000 in
theorem has_any (s : Int) (m : Nat) (w : World) (hm : m < 64) :
    Calls Ybaf.prog 32 #[.int .u64 s, .int .i64 m] w fun e w' => e = .returned (.bool (bits .and .u64 s (IntKind.u64.wrap (2 ^ m)) != 0)) ∧ w' = w := by
  go_enter Ybaf.func32, Ybaf.ntmps32
  go_wp2
  go_ret
  exact ⟨rfl, rfl⟩

set_option maxHeartbeats 400000 in
theorem without_any (s : Int) (m : Nat) (w : World) (hm : m < 64) :
    Calls Ybaf.prog 27 #[.int .u64 s, .int .i64 m] w fun e w' => e = .returned (.int .u64 (bits .andNot .u64 s (IntKind.u64.wrap (2 ^ m)))) ∧ w' = w := by
  go_enter Ybaf.func27, Ybaf.ntmps27
  go_wp2
  go_ret
  exact ⟨rfl, rfl⟩

set_option maxHeartbeats 400000 in
theorem pred_any (x y : Int) (w : World) :
    Calls Ybaf.prog 35 #[.agg #[.int .u64 x, .int .u64 y]] w fun e w' => (∃ b, e = .returned (.bool b)) ∧ w' = w.alloc (.cells #[.int .u64 x, .int .u64 y] 70) := by
  go_enter Ybaf.func35, Ybaf.ntmps35
  go_wp2
  go_ret
  exact ⟨⟨_, rfl⟩, rfl⟩

set_option maxHeartbeats 400000 in
theorem len_any (H o n c : Nat) (a : Option Addr) (hd : Nat) (w : World) (h0 : w.cell? ⟨H, o, none⟩ = some (.slice a n c)) (h1 : w.cell? ⟨H, o + 1, none⟩ = some (.int .i64 hd)) (hn : hd ≤ n) (hb : n ≤ 1000000) :
    Calls Ybaf.prog 17 #[.pointer (some ⟨H, o, none⟩)] w fun e w' => e = .returned (.int .i64 ((n : Int) - hd)) ∧ ∃ q, w' = w.drewN q := by
  go_enter Ybaf.func17, Ybaf.ntmps17
  go_wp2
  go_quiet (fail)
  go_wp2
  go_ret
  exact ⟨rfl, _, rfl⟩

/-- The table in its variable. -/
def Tab (w : World) : Prop := ∀ j, j < 64 → w.cell? ⟨0, j, none⟩ = some (.int .u8 (Lib.deBruijn64tab.getD j 0))

theorem tz_key (x a : Nat) (hx : x < 18446744073709551616) (hx0 : x ≠ 0) (hlow : x &&& (18446744073709551616 - x) = a) :
    IntKind.u64.wrap (bits BinOp.and IntKind.u64 (x : Int) (IntKind.u64.wrap (-(x : Int))) * 285870213051353865) / 288230376151711744 = ((a * 285870213051353865 % 18446744073709551616 / 288230376151711744 : Nat) : Int) := by
  have e1 : IntKind.u64.wrap (-(x : Int)) = ((18446744073709551616 - x : Nat) : Int) := by rw [IntKind.wrap_u64]; omega
  rw [e1, bits_and_u64_nat x _ hx (by omega), hlow, IntKind.wrap_u64]
  omega

set_option maxHeartbeats 400000 in
theorem tz_core (x k idx : Nat) (w : World) (hx0 : ((x : Int) == 0) = false)
    (key : IntKind.u64.wrap (bits BinOp.and IntKind.u64 (x : Int) (IntKind.u64.wrap (-(x : Int))) * 285870213051353865) / 288230376151711744 = (idx : Int))
    (hi : idx < 64) (hk : k < 64) (hcell : w.cell? ⟨0, idx, none⟩ = some (.int .u8 k)) :
    Calls Ybaf.prog 25 #[.int .u64 x] w fun e w' => e = .returned (.int .i64 k) ∧ w' = w := by
  go_enter Ybaf.func25, Ybaf.ntmps25
  go_wp2_with (simp only [key])
  go_ret
  exact ⟨rfl, rfl⟩

theorem tz_any (x : Nat) (hx : x < 18446744073709551616) (hx0 : x ≠ 0) (w : World) (hT : Tab w) :
    Calls Ybaf.prog 25 #[.int .u64 x] w fun e w' => e = .returned (.int .i64 (Lib.ctz 64 x : Nat)) ∧ w' = w := by
  obtain ⟨hlow, hk⟩ := Lib.lowest_bit 64 x hx0 hx
  obtain ⟨hi, htab⟩ := Lib.deBruijn64_at _ hk
  have hcell := hT _ hi
  rw [htab] at hcell
  exact tz_core x _ _ w (by simp; omega) (tz_key x _ hx hx0 hlow) hi hk hcell

/-- A cell that holds a uint64. -/
def isU (v : Value) : Prop := ∃ z : Int, v = .int .u64 z ∧ 0 ≤ z ∧ z < 18446744073709551616
theorem isU.one {v : Value} (h : isU v) : v.oneCell' = true := by obtain ⟨z, rfl, _⟩ := h; rfl
theorem isU_int {z : Int} (h0 : 0 ≤ z) (h1 : z < 18446744073709551616) : isU (.int .u64 z) := ⟨z, rfl, h0, h1⟩

/-- Every log entry of the call's own is two uint64s. -/
def LogOK (base : Nat) (w : World) : Prop := ∀ (b : Nat) (cur : Array Value) (fr : Nat × Nat), base ≤ b → w.heap[b]? = some (.cells cur 70 fr) → fr = (0, 0) ∧ ∀ v ∈ cur.toList, isU v
/-- A slice of log entries of the call's own, no longer than N. -/
def LogSl (base N : Nat) (w : World) (v : Value) : Prop :=
  v = .slice none 0 0 ∨ ∃ (b n c : Nat) (cur : Array Value), v = .slice (some ⟨b, 0, none⟩) n c ∧ base ≤ b ∧ w.heap[b]? = some (.cells cur 70 (0, 0)) ∧ n ≤ c ∧ c ≤ maxLen ∧ cur.size = c * 2 ∧ n ≤ N

section
variable {base N : Nat} {S T : List Nat} {w w' : World} {v : Value}
theorem LogSl.fr (h : LogSl base N w v) (hf : Fr base S T w w') : LogSl base N w' v := by
  rcases h with h | ⟨b, n, c, cur, h1, h2, h3, h4, h5, h6, h7⟩
  · exact .inl h
  · obtain ⟨c', g', s'⟩ := hf.shape b cur 70 (0, 0) h3
    exact .inr ⟨b, n, c, c', h1, h2, g', h4, h5, s'.trans h6, h7⟩
theorem LogSl.mono {N' : Nat} (h : LogSl base N w v) (hN : N ≤ N') : LogSl base N' w v := by
  rcases h with h | ⟨b, n, c, cur, h1, h2, h3, h4, h5, h6, h7⟩
  · exact .inl h
  · exact .inr ⟨b, n, c, cur, h1, h2, h3, h4, h5, h6, by omega⟩
theorem LogSl.owns (h : LogSl base N w v) (ho : LogOK base w) : ∃ n xs, w.ownsRow base 70 2 v n xs ∧ n ≤ N ∧ (∀ u ∈ xs, isU u) ∧ ∃ a c, v = .slice a n c := by
  rcases h with rfl | ⟨b, n, c, cur, rfl, h2, h3, h4, h5, h6, h7⟩
  · exact ⟨0, [], World.ownsRow_nil _ _ _ _, Nat.zero_le _, by simp, _, _, rfl⟩
  · refine ⟨n, cur.toList.take (n * 2), ⟨?_, .inr ⟨b, c, cur, rfl, h2, h3, h4, h5, h6, rfl⟩⟩, h7, fun u hu => (ho b cur _ h2 h3).2 u (List.mem_of_mem_take hu), _, _, rfl⟩
    simp only [List.length_take, Array.length_toList]
    omega
theorem LogSl.ofOwns {n : Nat} {xs : List Value} (h : w.ownsRow base 70 2 v n xs) (hn : n ≤ N) : LogSl base N w v := by
  rcases h.2 with ⟨rfl, _⟩ | ⟨g, cap, cur, rfl, hb, hg, hnc, hcm, hcs, _⟩
  · exact .inl rfl
  · exact .inr ⟨g, n, cap, cur, rfl, hb, hg, hnc, hcm, hcs, hn⟩
theorem LogSl.cells {b n c : Nat} (h : LogSl base N w (.slice (some ⟨b, 0, none⟩) n c)) (ho : LogOK base w) (i : Nat) (hi : i < n) :
    base ≤ b ∧ n ≤ c ∧ n ≤ N ∧ (∀ j, w.frozen? ⟨b, j, none⟩ = false) ∧ ∃ x y : Int, w.cell? ⟨b, i * 2, none⟩ = some (.int .u64 x) ∧ w.cell? ⟨b, i * 2 + 1, none⟩ = some (.int .u64 y) ∧ 0 ≤ x ∧ x < 18446744073709551616 ∧ 0 ≤ y ∧ y < 18446744073709551616 := by
  rcases h with h | ⟨b', n', c', cur, h1, h2, h3, h4, h5, h6, h7⟩
  · simp at h
  · simp only [Value.slice.injEq, Option.some.injEq, Addr.mk.injEq, and_true] at h1
    obtain ⟨rfl, rfl, rfl⟩ := h1
    obtain ⟨_, hu⟩ := ho b cur _ h2 h3
    have hb0 : i * 2 < cur.size := by omega
    have hb1 : i * 2 + 1 < cur.size := by omega
    obtain ⟨x, hx, hx0, hx1⟩ := hu cur[i * 2] (by simp)
    obtain ⟨y, hy, hy0, hy1⟩ := hu cur[i * 2 + 1] (by simp)
    refine ⟨h2, h4, h7, fun j => by simp [World.frozen?, h3], x, y, ?_, ?_, hx0, hx1, hy0, hy1⟩
    · simp only [World.cell?, h3]; rw [Array.getElem?_eq_getElem hb0, hx]; rfl
    · simp only [World.cell?, h3]; rw [Array.getElem?_eq_getElem hb1, hy]; rfl
theorem LogOK.same (h : LogOK base w) (he : w'.heap = w.heap) : LogOK base w' := by unfold LogOK; rw [he]; exact h
theorem LogOK.alloc (h : LogOK base w) (cur : Array Value) (t : TypeId) (hu : t = 70 → ∀ v ∈ cur.toList, isU v) : LogOK base (w.alloc (.cells cur t)) := by
  intro b c fr hb hg
  by_cases e : b = w.heap.size
  · subst e
    rw [heap_alloc_new] at hg
    cases hg
    exact ⟨rfl, hu rfl⟩
  · have hlt : b < w.heap.size := by
      have := (Array.getElem?_eq_some_iff.1 hg).1
      simp at this
      omega
    rw [Below.heap_alloc _ _ _ hlt] at hg
    exact h b c fr hb hg
theorem LogOK.setRow (h : LogOK base w) {g : Nat} {cur cs : Array Value} {t : TypeId} {fr : Nat × Nat} (hg : w.heap[g]? = some (.cells cur t fr)) (hu : t = 70 → ∀ v ∈ cs.toList, isU v) : LogOK base (w.setRow g cs) := by
  intro b c fr' hb hg'
  by_cases e : b = g
  · subst e
    rw [setRow_heap w b _ _ _ _ hg] at hg'
    cases hg'
    exact ⟨(h b cur fr hb hg).1, hu rfl⟩
  · rw [setRow_other w g b cs e] at hg'
    exact h b c fr' hb hg'
theorem LogOK.setCell (h : LogOK base w) {g o : Nat} {cur : Array Value} {t : TypeId} {fr : Nat × Nat} (hg : w.heap[g]? = some (.cells cur t fr)) (v : Value) (hu : t = 70 → base ≤ g ∧ isU v) : LogOK base (w.setCell ⟨g, o, none⟩ v) := by
  rw [setCell_eq_setRow w g o cur t fr v hg]
  refine h.setRow hg fun e u hm => ?_
  subst e
  rw [Array.toList_setIfInBounds] at hm
  rcases List.mem_or_eq_of_mem_set hm with hm | rfl
  · exact (h g cur fr (hu rfl).1 hg).2 u hm
  · exact (hu rfl).2
theorem LogOK.moved (h : LogOK base w) {e : TypeId} {xs news : List Value} {z : Array Value} {v' : Value} (hm : Moved e xs news z w w' v v') (hb : e = 70 → ∀ g, v.ownBlock = some g → base ≤ g) (hx : e = 70 → ∀ u ∈ xs, isU u) (hn : e = 70 → ∀ u ∈ news, isU u) (hz : e = 70 → ∀ u ∈ z.toList, isU u) : LogOK base w' := by
  rcases hm with ⟨_, rfl⟩ | ⟨g, n, n', cap, cur, cur', rfl, _, hg, hsz, hmem, rfl⟩ | ⟨n', cap', cur', _, hmem, rfl⟩
  · exact h
  · refine h.setRow hg fun e' u hu => ?_
    rcases hmem u hu with hu | hu
    · subst e'; exact (h g cur _ (hb rfl g rfl) hg).2 u hu
    · exact hn e' u hu
  · refine LogOK.alloc (w := w.drew) h cur' e fun e' u hu => ?_
    rcases hmem u hu with hu | hu | hu
    · exact hx e' u hu
    · exact hn e' u hu
    · exact hz e' u hu
end

end Go.Proofs.YbulkbobqFmt
