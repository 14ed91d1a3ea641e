/-
  The contract of compact: what shape it leaves.
-/
import Derived.Test.YbulkbobqFmtDel
namespace Go.Proofs.YbulkbobqFmt
open Go.RowKit

set_option maxHeartbeats 400000 in
theorem index_nil (w : World) : Calls Ybaf.prog 37 #[.slice none 0 0, .func (.func 35) #[] #[]] w fun e w' => e = .returned (.int .i64 (-1)) ∧ w' = w := by
  go_enter Ybaf.func37, Ybaf.ntmps37
  go_wp2
  go_loop [8] (fun i => i = .int .i64 0) (fun _ => 0)
  case atStart => rfl
  case round =>
    obtain rfl := hrel
    go_wp2
    go_ret
    exact ⟨rfl, rfl⟩

set_option maxHeartbeats 400000 in
theorem delete_nil (w : World) : Calls Ybaf.prog 34 #[.slice none 0 0, .func (.func 35) #[] #[]] w fun e w' => e = .returned (.slice none 0 0) ∧ w' = w := by
  go_enter Ybaf.func34, Ybaf.ntmps34
  go_wp2_with fail
  refine (index_nil w).mono ?_
  rintro e w' ⟨rfl, rfl⟩
  go_wp2
  go_ret
  exact ⟨rfl, rfl⟩

theorem delete_log (base N : Nat) (v : Value) (w : World) (hs : LogSl base N w v) (ho : LogOK base w) (hN : N ≤ 1000000) :
    Calls Ybaf.prog 34 #[v, .func (.func 35) #[] #[]] w fun e w' => (∃ v', e = .returned v' ∧ LogSl base N w' v') ∧ Fr base [] [70] w w' ∧ LogOK base w' := by
  rcases id hs with rfl | ⟨b, n, c, cur, rfl, h2, h3, h4, h5, h6, h7⟩
  · refine (delete_nil w).mono ?_
    rintro e w' ⟨rfl, rfl⟩
    exact ⟨⟨_, rfl, .inl rfl⟩, Fr.refl _ _ _ _, ho⟩
  · refine (delete_any base N b n c w hs ho hN h7).mono ?_
    rintro e w' ⟨⟨n', rfl, hn'⟩, hf, hl⟩
    refine ⟨⟨_, rfl, ?_⟩, hf, hl⟩
    obtain ⟨cur', g', s'⟩ := hf.shape b cur 70 (0, 0) h3
    exact .inr ⟨b, n', c, cur', rfl, h2, g', by omega, h5, s'.trans h6, by omega⟩

set_option maxHeartbeats 1000000 in
theorem compact_any (base N : Nat) (v : Value) (g : Int) (w : World) (hs : LogSl base N w v) (ho : LogOK base w) (hN : N ≤ 1000000) :
    Calls Ybaf.prog 29 #[v, .int .u64 g] w fun e w' => (∃ v', e = .returned v' ∧ LogSl base N w' v') ∧ Fr base [] [70] w w' ∧ LogOK base w' := by
  obtain ⟨n, xs, _, hn, _, a, c, rfl⟩ := hs.owns ho
  go_enter Ybaf.func29, Ybaf.ntmps29
  go_wp2
  go_loopw [5, 6] (fun l i wr => ∃ (z : Int) (k : Nat), k ≤ n ∧ l = .int .u64 z ∧ i = .int .i64 ((k : Int) - 1) ∧ Fr base [] [70] w wr ∧ LogOK base wr) (fun _ i _ => (intOf i + 1).toNat)
  case atStart => exact ⟨_, n, Nat.le_refl _, rfl, by go_num, Fr.refl _ _ _ _, ho⟩
  case round =>
    obtain ⟨z, k, hk, rfl, rfl, hf, hl⟩ := hrel
    by_cases hlt : 0 < k
    · obtain ⟨j, rfl⟩ : ∃ j, k = j + 1 := ⟨k - 1, by omega⟩
      rw [show ((j + 1 : Nat) : Int) - 1 = (j : Int) from by omega]
      have hs' := hs.fr hf
      rcases id hs' with h | ⟨b, n', c', cur, h1, _⟩
      · simp at h; omega
      simp only [Value.slice.injEq] at h1
      obtain ⟨rfl, rfl, rfl⟩ := h1
      obtain ⟨hb, hnc, _, hfz, x, y, hx, hy, hx0, hx1, hy0, hy1⟩ := hs'.cells hl j (by omega)
      have hst := LogSl.stored hs' hl (j * 2 + 1) (bits .andNot .u64 y z) (bits_range _ _ _).1 (bits_range _ _ _).2
      have HF : Hid (Fr base [] [70] w (wr.setCell ⟨b, j * 2 + 1, none⟩ (.int .u64 (bits .andNot .u64 y z)))) := hst.2 hf
      have HL : Hid (LogOK base (wr.setCell ⟨b, j * 2 + 1, none⟩ (.int .u64 (bits .andNot .u64 y z)))) := hst.1
      clear hst hs hs' hl hf
      go_wp2
      go_roundw
      case rel => exact ⟨_, j, by omega, rfl, by go_num, HF.out, HL.out⟩
      case measure => simp [intOf]
    · obtain rfl : k = 0 := by omega
      have hs' := hs.fr hf
      go_wp2_with fail
      refine (delete_log base N _ wr hs' hl hN).mono ?_
      rintro e w' ⟨⟨v', rfl, hv'⟩, hf', hl'⟩
      go_wp2
      go_ret
      exact ⟨⟨v', rfl, hv'⟩, hf.trans hf', hl'⟩

end Go.Proofs.YbulkbobqFmt
