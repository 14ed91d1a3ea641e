/- The small functions of law B: the names of hosts and viewers, newSubscriptions, slices.Index, Contains and Equal at strings. -/
import Derived.Test.YbulkbofkRows
import Derived.Test.YbulkbofkMapW
import Derived.Test.YbulkbofkTime
import Derived.Lib.Strings
import Derived.Lib.Slices
import Derived.Lib.SlicesS
import Derived.Lib.Walk
import Derived.Carry
namespace Go.Proofs.Ybulkbofk
open Go.RowKit

def hn : Nat → ByteArray
  | 0 => ⟨#[104, 48]⟩
  | 1 => ⟨#[104, 49]⟩
  | _ => ⟨#[104, 50]⟩
def vn : Nat → ByteArray
  | 0 => ⟨#[118, 48]⟩
  | 1 => ⟨#[118, 49]⟩
  | 2 => ⟨#[118, 50]⟩
  | _ => ⟨#[118, 51]⟩
def hv (i : Nat) : Value := .string (hn i)
def vv (i : Nat) : Value := .string (vn i)

theorem hn_inj (i j : Nat) (hi : i < 3) (hj : j < 3) (h : hn i = hn j) : i = j := by
  have : ∀ i j : Fin 3, hn i.val = hn j.val → i.val = j.val := by decide
  exact this ⟨i, hi⟩ ⟨j, hj⟩ h
theorem vn_inj (i j : Nat) (hi : i < 4) (hj : j < 4) (h : vn i = vn j) : i = j := by
  have : ∀ i j : Fin 4, vn i.val = vn j.val → i.val = j.val := by decide
  exact this ⟨i, hi⟩ ⟨j, hj⟩ h

theorem keyed9 : Go.Maps.Keyed Yba.prog 9 := Go.Maps.Keyed.of_law (Go.WideMaps.string_law Yba.underlying9)
theorem tabV : Tab Yba.prog 9 4 vv := ⟨keyed9, fun i _ => ⟨.string (vn i).toList, by
  have h1 : (vn i).size ≤ maxLen := by unfold vn; split <;> decide
  simp [keyOf, vv, Yba.underlying9, mapKey, h1, ByteArray.toList_eq]⟩, fun i j hi hj h => vn_inj i j hi hj (by unfold vv at h; injection h)⟩
theorem tabH : Tab Yba.prog 9 3 hv := ⟨keyed9, fun i _ => ⟨.string (hn i).toList, by
  have h1 : (hn i).size ≤ maxLen := by unfold hn; split <;> decide
  simp [keyOf, hv, Yba.underlying9, mapKey, h1, ByteArray.toList_eq]⟩, fun i j hi hj h => hn_inj i j hi hj (by unfold hv at h; injection h)⟩

theorem idx95 (w : World) (i : Nat) (hi : i < 3) (a b c : ByteArray) : (Instr.index 95 (.agg #[.string a, .string b, .string c]) (.int .i64 i)).run Yba.prog w = .ok (.string ([a, b, c].getD i a)) w := by
  obtain rfl | rfl | rfl : i = 0 ∨ i = 1 ∨ i = 2 := by omega
  all_goals simp [Instr.index, asIntOf, go_sem, Yba.runUnderlying95, Result.andThen, part]
theorem idx96 (w : World) (i : Nat) (hi : i < 4) (a b c d : ByteArray) : (Instr.index 96 (.agg #[.string a, .string b, .string c, .string d]) (.int .i64 i)).run Yba.prog w = .ok (.string ([a, b, c, d].getD i a)) w := by
  obtain rfl | rfl | rfl | rfl : i = 0 ∨ i = 1 ∨ i = 2 ∨ i = 3 := by omega
  all_goals simp [Instr.index, asIntOf, go_sem, Yba.runUnderlying96, Result.andThen, part]

theorem host_any (i : Nat) (hi : i < 3) (w : World) : Calls Yba.prog 10 #[.int .i64 i] w fun e w' => e = .returned (hv i) ∧ w' = w := by
  have h := idx95 w i hi ⟨#[104, 48]⟩ ⟨#[104, 49]⟩ ⟨#[104, 50]⟩
  have h2 : Value.string ([⟨#[104, 48]⟩, ⟨#[104, 49]⟩, ⟨#[104, 50]⟩].getD i ⟨#[104, 48]⟩) = hv i := by
    obtain rfl | rfl | rfl : i = 0 ∨ i = 1 ∨ i = 2 := by omega
    all_goals rfl
  rw [h2] at h
  generalize hv i = v at h ⊢
  clear h2
  go_enter Yba.func10, Yba.ntmps10
  go_wp2
  go_ret
  exact ⟨rfl, rfl⟩

theorem name_any (i : Nat) (hi : i < 4) (w : World) : Calls Yba.prog 12 #[.int .i64 i] w fun e w' => e = .returned (vv i) ∧ w' = w := by
  have h := idx96 w i hi ⟨#[118, 48]⟩ ⟨#[118, 49]⟩ ⟨#[118, 50]⟩ ⟨#[118, 51]⟩
  have h2 : Value.string ([⟨#[118, 48]⟩, ⟨#[118, 49]⟩, ⟨#[118, 50]⟩, ⟨#[118, 51]⟩].getD i ⟨#[118, 48]⟩) = vv i := by
    obtain rfl | rfl | rfl | rfl : i = 0 ∨ i = 1 ∨ i = 2 ∨ i = 3 := by omega
    all_goals rfl
  rw [h2] at h
  generalize vv i = v at h ⊢
  clear h2
  go_enter Yba.func12, Yba.ntmps12
  go_wp2
  go_ret
  exact ⟨rfl, rfl⟩

theorem newSubs_any (w : World) : Calls Yba.prog 11 #[] w fun e w' => e = .returned (.pointer (some ⟨w.heap.size + 3, 0, none⟩)) ∧
    w' = (((w.alloc (.map #[] 0)).alloc (.map #[] 0)).alloc (.map #[] 0)).alloc (.cells #[.int .i32 0, .int .u32 0, .map (some w.heap.size), .map (some (w.heap.size + 1)), .map (some (w.heap.size + 2))] 82) := by
  have hmm := @run_makeMap Yba.prog
  go_enter Yba.func11, Yba.ntmps11
  go_wp2
  go_ret
  exact ⟨rfl, rfl⟩

set_option maxHeartbeats 1000000 in
theorem index_s (b off n c : Nat) (zs : List ByteArray) (x : ByteArray) (w : World) (hz : n = zs.length) (hbig : n ≤ 1000000) (hc : ∀ j, j < zs.length → w.cell? ⟨b, off + j, none⟩ = some (.string (zs.getD j ByteArray.empty))) :
    Calls Yba.prog 31 #[.slice (some ⟨b, off, none⟩) n c, .string x] w fun e w' => e = .returned (.int .i64 (Lib.idxOfS zs x)) ∧ w' = w := by
  have HT : Hid (zs.take n = zs) := by
    show zs.take n = zs
    rw [hz]; exact List.take_length
  have HZ : Hid (n = zs.length) := hz
  clear hz
  go_enter Yba.func31, Yba.ntmps31
  go_wp2_with fail
  go_loopw [5, 8] (fun _ i wr => wr = w ∧ ∃ k : Nat, k ≤ n ∧ i = .int .i64 k ∧ ∀ j, j < k → zs.getD j ByteArray.empty ≠ x) (fun _ i _ => n - (intOf i).toNat)
  case atStart => exact ⟨rfl, 0, Nat.zero_le _, rfl, fun j hj => absurd hj (Nat.not_lt_zero _)⟩
  case round =>
    obtain ⟨rfl, k, hk, rfl, hne⟩ := hrel
    by_cases hlt : k < n
    · have hcell : wr.cell? ⟨b, off + k, none⟩ = some (.string (zs.getD k ByteArray.empty)) := hc k (by have := HZ.out; omega)
      have hlt2 : (k : Int) < n := by omega
      generalize hz2 : zs.getD k ByteArray.empty = z at hcell
      by_cases heq : x = z
      · have heq2 : (x.toList == z.toList) = true := (Lib.bytes_beq_iff _ _).2 heq
        have HI : Hid (Lib.idxOfS zs x = k) := by
          have := Lib.idxOfS_hit zs n k x hlt (by have := HZ.out; omega) (hz2.trans heq.symm) hne
          rw [HT.out] at this
          exact this
        clear hne hc
        go_wp2
        go_ret
        exact ⟨by rw [HI.out]; rfl, rfl⟩
      · have hneq : (x.toList == z.toList) = false := (Lib.bytes_beq_false_iff _ _).2 heq
        have HN : Hid (∀ j, j < k + 1 → zs.getD j ByteArray.empty ≠ x) := fun j hj => by
          by_cases e : j = k
          · subst e
            rw [hz2]
            exact fun h => heq h.symm
          · exact hne j (by omega)
        clear hne hc
        go_wp2
        go_roundw
        case rel => exact ⟨by trivial, k + 1, by omega, rfl, HN.out⟩
        case measure => simp [intOf]; omega
    · obtain rfl : k = n := by omega
      have HI : Hid (Lib.idxOfS zs x = -1) := by
        have := Lib.idxOfS_miss zs k x hne
        rw [HT.out] at this
        exact this
      clear hne hc
      go_wp2
      go_ret
      exact ⟨by rw [HI.out]; rfl, rfl⟩

set_option maxHeartbeats 1000000 in
theorem index_s0 (a : Option Addr) (c : Nat) (x : ByteArray) (w : World) :
    Calls Yba.prog 31 #[.slice a 0 c, .string x] w fun e w' => e = .returned (.int .i64 (-1)) ∧ w' = w := by
  go_enter Yba.func31, Yba.ntmps31
  go_wp2_with fail
  go_loopw [5, 8] (fun _ i wr => wr = w ∧ i = .int .i64 0) (fun _ _ _ => 0)
  case atStart => exact ⟨rfl, rfl⟩
  case round =>
    obtain ⟨rfl, rfl⟩ := hrel
    go_wp2
    go_ret
    exact ⟨rfl, rfl⟩

theorem contains_s (b off n c : Nat) (zs : List ByteArray) (x : ByteArray) (w : World) (hz : n = zs.length) (hbig : n ≤ 1000000) (hc : ∀ j, j < zs.length → w.cell? ⟨b, off + j, none⟩ = some (.string (zs.getD j ByteArray.empty))) :
    Calls Yba.prog 16 #[.slice (some ⟨b, off, none⟩) n c, .string x] w fun e w' => e = .returned (.bool (decide (0 ≤ Lib.idxOfS zs x))) ∧ w' = w := by
  have HI := index_s b off n c zs x w hz hbig hc
  clear hc hz
  generalize Lib.idxOfS zs x = i at HI ⊢
  go_enter Yba.func16, Yba.ntmps16
  go_wp2_with fail
  refine HI.mono ?_
  rintro e w' ⟨rfl, rfl⟩
  go_wp2
  go_ret
  exact ⟨rfl, rfl⟩

theorem contains_s0 (a : Option Addr) (c : Nat) (x : ByteArray) (w : World) :
    Calls Yba.prog 16 #[.slice a 0 c, .string x] w fun e w' => e = .returned (.bool false) ∧ w' = w := by
  go_enter Yba.func16, Yba.ntmps16
  go_wp2_with fail
  refine (index_s0 a c x _).mono ?_
  rintro e w' ⟨rfl, rfl⟩
  go_wp2
  go_ret
  exact ⟨rfl, rfl⟩

set_option maxHeartbeats 1000000 in
theorem equal_s (b off n c : Nat) (zs : List ByteArray) (w : World) (hz : n = zs.length) (hbig : n ≤ 1000000) (hc : ∀ j, j < zs.length → w.cell? ⟨b, off + j, none⟩ = some (.string (zs.getD j ByteArray.empty))) :
    Calls Yba.prog 15 #[.slice (some ⟨b, off, none⟩) n c, .slice (some ⟨b, off, none⟩) n c] w fun e w' => e = .returned (.bool true) ∧ ∃ q, w' = w.drewN q := by
  have HZ : Hid (n = zs.length) := hz
  clear hz
  go_enter Yba.func15, Yba.ntmps15
  go_wp2_with fail
  go_loopw [5, 13] (fun _ i wr => ∃ k q : Nat, k ≤ n ∧ i = .int .i64 k ∧ wr = w.drewN q) (fun _ i _ => n - (intOf i).toNat)
  case atStart => exact ⟨0, 0, Nat.zero_le _, rfl, rfl⟩
  case round =>
    obtain ⟨k, q, hk, rfl, rfl⟩ := hrel
    by_cases hlt : k < n
    · have hcell : w.cell? ⟨b, off + k, none⟩ = some (.string (zs.getD k ByteArray.empty)) := hc k (by have := HZ.out; omega)
      have hlt2 : (k : Int) < n := by omega
      generalize zs.getD k ByteArray.empty = z at hcell
      clear hc
      go_upto_region 6 with fail
      go_quiet (fail)
      go_wp2
      go_roundw
      case rel => exact ⟨k + 1, _, by omega, rfl, rfl⟩
      case measure => simp [intOf]; omega
    · obtain rfl : k = n := by omega
      clear hc
      go_wp2
      go_ret
      exact ⟨rfl, _, rfl⟩

set_option maxHeartbeats 1000000 in
theorem equal_s0 (a : Option Addr) (c : Nat) (w : World) :
    Calls Yba.prog 15 #[.slice a 0 c, .slice a 0 c] w fun e w' => e = .returned (.bool true) ∧ w' = w := by
  go_enter Yba.func15, Yba.ntmps15
  go_wp2_with fail
  go_loopw [5, 13] (fun _ i wr => wr = w ∧ i = .int .i64 0) (fun _ _ _ => 0)
  case atStart => exact ⟨rfl, rfl⟩
  case round =>
    obtain ⟨rfl, rfl⟩ := hrel
    go_wp2
    go_ret
    exact ⟨rfl, rfl⟩

end Go.Proofs.Ybulkbofk
