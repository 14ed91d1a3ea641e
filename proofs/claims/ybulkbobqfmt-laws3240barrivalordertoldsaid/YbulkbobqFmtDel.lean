/-
  The contracts of slices.IndexFunc and slices.DeleteFunc at the log: what shape they leave.
-/
import Derived.Test.YbulkbobqFmtSmall
import Derived.Lib.SliceRun
namespace Go.Proofs.YbulkbobqFmt
open Go.RowKit

set_option maxHeartbeats 1000000 in
theorem index_any (base N b n c : Nat) (w : World) (hs : LogSl base N w (.slice (some ⟨b, 0, none⟩) n c)) (ho : LogOK base w) (hN : N ≤ 1000000) (hnN : n ≤ N) :
    Calls Ybaf.prog 37 #[.slice (some ⟨b, 0, none⟩) n c, .func (.func 35) #[] #[]] w fun e w' => (∃ r : Int, e = .returned (.int .i64 r) ∧ -1 ≤ r ∧ r < n) ∧ Fr base [] [] w w' ∧ LogOK base w' := by
  go_enter Ybaf.func37, Ybaf.ntmps37
  go_wp2
  go_loopw [8] (fun i wr => ∃ k : Nat, k ≤ n ∧ i = .int .i64 k ∧ Fr base [] [] w wr ∧ LogOK base wr) (fun i _ => n - (intOf i).toNat)
  case atStart => exact ⟨0, Nat.zero_le _, rfl, Fr.refl _ _ _ _, ho⟩
  case round =>
    obtain ⟨k, hk, rfl, hf, hl⟩ := hrel
    by_cases hlt : k < n
    · obtain ⟨hb, hnc, _, hfz, x, y, hx, hy, hx0, hx1, hy0, hy1⟩ := (hs.fr hf).cells hl k hlt
      clear hs
      go_wp2_with fail
      refine (pred_any x y wr).mono ?_
      rintro e w1 ⟨⟨bb, rfl⟩, rfl⟩
      have hl' : LogOK base (wr.alloc (.cells #[.int .u64 x, .int .u64 y] 70)) := hl.alloc _ _ fun _ u hu => by
        simp at hu
        rcases hu with rfl | rfl
        · exact isU_int hx0 hx1
        · exact isU_int hy0 hy1
      have hf' : Fr base [] [] w (wr.alloc (.cells #[.int .u64 x, .int .u64 y] 70)) := hf.alloc _
      clear hf hl
      cases bb
      · go_wp2
        go_roundw
        case rel => exact ⟨k + 1, by omega, by go_num, hf', hl'⟩
        case measure => simp [intOf]; omega
      · go_wp2
        go_ret
        exact ⟨⟨k, rfl, by omega, by omega⟩, hf', hl'⟩
    · go_wp2
      go_ret
      exact ⟨⟨-1, rfl, by omega, by omega⟩, hf, hl⟩

/-- One entry of a log row, and the row with it stored. -/
theorem LogSl.stored {base N b n c : Nat} {w : World} (h : LogSl base N w (.slice (some ⟨b, 0, none⟩) n c)) (ho : LogOK base w) (o : Nat) (z : Int) (h0 : 0 ≤ z) (h1 : z < 18446744073709551616) :
    LogOK base (w.setCell ⟨b, o, none⟩ (.int .u64 z)) ∧ ∀ {S : List Nat} {w0 : World}, Fr base S [70] w0 w → Fr base S [70] w0 (w.setCell ⟨b, o, none⟩ (.int .u64 z)) := by
  rcases h with h | ⟨b', n', c', cur, h1', h2, h3, h4, h5, h6, h7⟩
  · simp at h
  · simp only [Value.slice.injEq, Option.some.injEq, Addr.mk.injEq, and_true] at h1'
    obtain ⟨rfl, rfl, rfl⟩ := h1'
    exact ⟨ho.setCell h3 _ fun _ => ⟨h2, isU_int h0 h1⟩, fun hf => hf.setCell h3 _ h2 (.inr (by simp))⟩

set_option maxHeartbeats 1000000 in
theorem delete_any (base N b n c : Nat) (w : World) (hs : LogSl base N w (.slice (some ⟨b, 0, none⟩) n c)) (ho : LogOK base w) (hN : N ≤ 1000000) (hnN : n ≤ N) :
    Calls Ybaf.prog 34 #[.slice (some ⟨b, 0, none⟩) n c, .func (.func 35) #[] #[]] w fun e w' => (∃ n', e = .returned (.slice (some ⟨b, 0, none⟩) n' c) ∧ n' ≤ n) ∧ Fr base [] [70] w w' ∧ LogOK base w' := by
  go_enter Ybaf.func34, Ybaf.ntmps34
  go_wp2_with fail
  refine (index_any base N b n c w hs ho hN hnN).mono ?_
  rintro e w1 ⟨⟨r, rfl, hr0, hr1⟩, hf1, hl1⟩
  have hf1' : Fr base [] [70] w w1 := hf1.wider (by simp) (by simp)
  by_cases hr : r = -1
  · subst hr
    go_wp2
    go_ret
    exact ⟨⟨n, rfl, Nat.le_refl _⟩, hf1', hl1⟩
  · have hrb : (r == -1) = false := beq_eq_false_iff_ne.2 hr
    obtain ⟨i0, rfl⟩ : ∃ i0 : Nat, r = i0 := ⟨r.toNat, by omega⟩
    go_wp2
    go_loopw [5, 6] (fun i j wr => ∃ k l : Nat, k < l ∧ l ≤ n ∧ i = .int .i64 k ∧ j = .int .i64 l ∧ Fr base [] [70] w wr ∧ LogOK base wr) (fun _ j _ => n - (intOf j).toNat)
    case atStart => exact ⟨i0, i0 + 1, by omega, by omega, rfl, by go_num, hf1', hl1⟩
    case round =>
      obtain ⟨k, l, hkl, hl, rfl, rfl, hf, hlk⟩ := hrel
      by_cases hlt : l < n
      · obtain ⟨hb, hnc, _, hfz, x, y, hx, hy, hx0, hx1, hy0, hy1⟩ := (hs.fr hf).cells hlk l hlt
        have hl' : LogOK base ((wr.alloc (.cells #[.int .u64 x, .int .u64 y] 70)).alloc (.cells #[.int .u64 x, .int .u64 y] 70)) := by
          have hu : ∀ u ∈ (#[.int .u64 x, .int .u64 y] : Array Value).toList, isU u := fun u hu => by
            simp at hu
            rcases hu with rfl | rfl
            · exact isU_int hx0 hx1
            · exact isU_int hy0 hy1
          exact (hlk.alloc _ _ fun _ => hu).alloc _ _ fun _ => hu
        have hf' : Fr base [] [70] w ((wr.alloc (.cells #[.int .u64 x, .int .u64 y] 70)).alloc (.cells #[.int .u64 x, .int .u64 y] 70)) := (hf.alloc _).alloc _
        have hs' := hs.fr hf'
        go_wp2_with fail
        refine (pred_any x y _).mono ?_
        rintro e w2 ⟨⟨bb, rfl⟩, rfl⟩
        obtain ⟨_, _, _, hfz', x', y', hx', hy', _, _, _, _⟩ := hs'.cells hl' k (by omega)
        have hz : (((wr.alloc (.cells #[.int .u64 x, .int .u64 y] 70)).alloc (.cells #[.int .u64 x, .int .u64 y] 70)).cell? ⟨wr.heap.size, 0, none⟩ = some (.int .u64 x)) ∧ (((wr.alloc (.cells #[.int .u64 x, .int .u64 y] 70)).alloc (.cells #[.int .u64 x, .int .u64 y] 70)).cell? ⟨wr.heap.size, 1, none⟩ = some (.int .u64 y)) := by
          constructor
          · exact Lib.cell?_alloc_some _ (by simp)
          · exact Lib.cell?_alloc_some _ (by simp)
        obtain ⟨hz0, hz1⟩ := hz
        generalize hW : ((wr.alloc (.cells #[.int .u64 x, .int .u64 y] 70)).alloc (.cells #[.int .u64 x, .int .u64 y] 70)) = W at *
        clear hW
        cases bb
        · have hst1 := LogSl.stored hs' hl' (k * 2) x hx0 hx1
          have hst2 := LogSl.stored (hs.fr (hst1.2 hf')) hst1.1 (k * 2 + 1) y hy0 hy1
          have HF : Hid (Fr base [] [70] w ((W.setCell ⟨b, k * 2, none⟩ (.int .u64 x)).setCell ⟨b, k * 2 + 1, none⟩ (.int .u64 y))) := hst2.2 (hst1.2 hf')
          have HL : Hid (LogOK base ((W.setCell ⟨b, k * 2, none⟩ (.int .u64 x)).setCell ⟨b, k * 2 + 1, none⟩ (.int .u64 y))) := hst2.1
          clear hst1 hst2
          go_wp2
          go_roundw
          case rel => exact ⟨k + 1, l + 1, by omega, by omega, by go_num, by go_num, HF.out, HL.out⟩
          case measure => simp [intOf]; omega
        · go_wp2
          go_roundw
          case rel => exact ⟨k, l + 1, by omega, by omega, rfl, by go_num, hf', hl'⟩
          case measure => simp [intOf]; omega
      · have hs' := hs.fr hf
        rcases hs' with h | ⟨b', n', c', cur, h1', h2, h3, h4, h5, h6, h7⟩
        · simp at h
        simp only [Value.slice.injEq, Option.some.injEq, Addr.mk.injEq, and_true] at h1'
        obtain ⟨rfl, rfl, rfl⟩ := h1'
        have hck : ¬ c = k := by omega
        have hcl : ∀ ty, (Builtin.clear_ #[52] ty #[.slice (some ⟨b, k * 2, none⟩) (n - k) (c - k)]).run Ybaf.prog wr = .ok (.tuple #[]) (wr.setRow b (cur.toList.take (k * 2) ++ (Builtin.zeroCells #[.int .u64 0, .int .u64 0] (n - k)).toList ++ cur.toList.drop (k * 2 + (n - k) * 2)).toArray) :=
          fun ty => run_clear_row wr 52 70 ty (.agg #[.int .u64 0, .int .u64 0]) Ybaf.underlying52 (fun w => by kernel_rfl) b (k * 2) (n - k) (c - k) cur 70 h3 (by simp [Value.cells]; omega) (by simp [Value.cells]; rfl)
        have hsz : (cur.toList.take (k * 2) ++ (Builtin.zeroCells #[.int .u64 0, .int .u64 0] (n - k)).toList ++ cur.toList.drop (k * 2 + (n - k) * 2)).toArray.size = cur.size := by
          simp only [List.size_toArray, List.length_append, List.length_take, List.length_drop, Array.length_toList, size_zeroCells]
          simp
          omega
        have hf2 := hf.setRow h3 hsz h2 (.inr (by simp))
        have hl2 : LogOK base (wr.setRow b (cur.toList.take (k * 2) ++ (Builtin.zeroCells #[.int .u64 0, .int .u64 0] (n - k)).toList ++ cur.toList.drop (k * 2 + (n - k) * 2)).toArray) := by
          refine hlk.setRow h3 fun _ u hu => ?_
          simp only [List.mem_append] at hu
          rcases hu with (hu | hu) | hu
          · exact (hlk b cur _ h2 h3).2 u (List.mem_of_mem_take hu)
          · have := mem_zeroCells _ _ u hu
            simp at this
            subst this
            exact isU_int (by omega) (by omega)
          · exact (hlk b cur _ h2 h3).2 u (List.mem_of_mem_drop hu)
        generalize hW : wr.setRow b (cur.toList.take (k * 2) ++ (Builtin.zeroCells #[.int .u64 0, .int .u64 0] (n - k)).toList ++ cur.toList.drop (k * 2 + (n - k) * 2)).toArray = W at *
        clear hW hsz
        go_wp2
        go_ret
        exact ⟨⟨k, rfl, by omega⟩, hf2, hl2⟩

end Go.Proofs.YbulkbobqFmt
