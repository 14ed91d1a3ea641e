/-
  zzs3247aat, Sub, reportsLive.
-/
import Derived.Test.YbulkbofkTime
namespace Go.Proofs.Ybulkbofk
open Go.RowKit

set_option maxHeartbeats 1000000 in
theorem at_any (s : Int) (w : World) (hs : -2147483648 ≤ s ∧ s ≤ 2147483647) : Calls Yba.prog 6 #[.int .i32 s] w fun e w' => e = .returned (tm s) ∧ Below w.heap.size w w' := by
  obtain ⟨W, hW⟩ : ∃ W, W = w.alloc (.cells #[.int .u64 0, .int .i64 0, .pointer none] 28) := ⟨_, rfl⟩
  have tR : Tb W w.heap.size 0 := by rw [hW]; exact heap_alloc_new w _
  have HW : Hid (Below w.heap.size w W ∧ w.heap.size < W.heap.size) := by rw [hW]; exact ⟨(Below.refl _ _).alloc (Nat.le_refl _) _, by simp⟩
  go_enter Yba.func6, Yba.ntmps6
  go_wp2_with fail
  rw [← hW]
  refine (add_any 0 s (s * 1000000000) W (by omega) (by omega) rfl).mono ?_
  rintro e W1 ⟨rfl, hb⟩
  rw [Int.zero_add]
  have tR1 : Tb W1 w.heap.size 0 := tR.other (hb.block _ HW.out.2)
  have HW1 : Hid (Below w.heap.size w W1) := HW.out.1.trans (hb.mono (Nat.le_of_lt HW.out.2))
  clear hW tR HW hb
  obtain ⟨B, hB⟩ : ∃ B, B = w.heap.size := ⟨_, rfl⟩
  have HBE : Hid (w.heap.size = B) := hB.symm
  rw [← hB] at tR1 HW1 ⊢
  clear hB
  obtain ⟨r0, r1, r2, rf⟩ := tR1.cells
  have HT : Hid (Tb (((W1.setCell ⟨B, 0, none⟩ (.int .u64 0)).setCell ⟨B, 1, none⟩ (.int .i64 s)).setCell ⟨B, 2, none⟩ (.pointer none)) B s ∧ Below B w (((W1.setCell ⟨B, 0, none⟩ (.int .u64 0)).setCell ⟨B, 1, none⟩ (.int .i64 s)).setCell ⟨B, 2, none⟩ (.pointer none))) :=
    ⟨((tR1.set0).set1 s).set2, ((HW1.out.setCell (Nat.le_refl _) _).setCell (Nat.le_refl _) _).setCell (Nat.le_refl _) _⟩
  clear tR1
  unfold tm
  go_wp2
  exact bodyPost_ret (results_cell_row rfl _ _ B 28 #[.int .u64 0, .int .i64 s, .pointer none] (0, 0) _ rfl HT.out.1 Yba.underlying28 rfl Yba.size28) rfl ⟨rfl, by rw [HBE.out]; exact HT.out.2⟩

set_option maxHeartbeats 1000000 in
theorem sub_any (a b : Int) (w : World) (ha : -2147483648 ≤ a ∧ a ≤ 2147483647) (hb : -2147483648 ≤ b ∧ b ≤ 2147483647) :
    Calls Yba.prog 32 #[tm a, tm b] w fun e w' => e = .returned (.int .i64 ((a - b) * 1000000000)) ∧ Below w.heap.size w w' := by
  have b3 : bits BinOp.and IntKind.u64 0 0 = 0 := by decide +kernel
  have b4 : bits BinOp.and IntKind.u64 0 9223372036854775808 = 0 := by decide +kernel
  obtain ⟨tA, tB, hb0⟩ := two_boxes a b w
  have hsz : w.heap.size + 1 < ((w.alloc (.cells #[.int .u64 0, .int .i64 a, .pointer none] 28)).alloc (.cells #[.int .u64 0, .int .i64 b, .pointer none] 28)).heap.size := by simp
  unfold tm
  go_enter Yba.func32, Yba.ntmps32
  go_upto_region 1 with fail
  have HP : Hid (Below w.heap.size w ((w.alloc (.cells #[.int .u64 0, .int .i64 a, .pointer none] 28)).alloc (.cells #[.int .u64 0, .int .i64 b, .pointer none] 28))) := hb0
  clear hb0
  generalize (w.alloc (.cells #[.int .u64 0, .int .i64 a, .pointer none] 28)).alloc (.cells #[.int .u64 0, .int .i64 b, .pointer none] 28) = W at tA tB HP hsz ⊢
  have HP2 : Hid (∀ w5 : World, Below W.heap.size W w5 → Tb w5 w.heap.size a ∧ Tb w5 (w.heap.size + 1) b ∧ Below w.heap.size w w5) := by
    intro w5 h5
    exact ⟨tA.other (h5.block _ (by omega)), tB.other (h5.block _ (by omega)), HP.out.trans (h5.mono (by omega))⟩
  have HPW : Hid (Below w.heap.size w W) := HP
  generalize hC : w.heap.size + 1 = C at tB HP2 ⊢
  obtain ⟨B, hB⟩ : ∃ B, B = w.heap.size := ⟨_, rfl⟩
  rw [← hB] at tA HP2 HPW ⊢
  have HBE : Hid (w.heap.size = B) := hB.symm
  clear HP hB hC hsz
  obtain ⟨a0, a1, a2, _⟩ := tA.cells
  obtain ⟨c0, c1, c2, _⟩ := tB.cells
  have s1 := sec_any B 0 a W a0 a1
  have s2 := sec_any C 0 b W c0 c1
  have n1 := nsec_any B 0 W a0
  have n2 := nsec_any C 0 W c0
  go_wp2_with fail
  refine s1.mono ?_
  rintro e w1 ⟨rfl, rfl⟩
  go_wp2_with fail
  refine s2.mono ?_
  rintro e w1 ⟨rfl, rfl⟩
  go_wp2_with fail
  refine n1.mono ?_
  rintro e w1 ⟨rfl, rfl⟩
  go_wp2_with fail
  refine n2.mono ?_
  rintro e w1 ⟨rfl, rfl⟩
  go_upto_region 5 with fail
  have hadd := add_any b (a - b) ((a - b) * 1000000000) w1.drew (by omega) (by omega) rfl
  rw [show b + (a - b) = a from by omega] at hadd
  have hrefl : (a == a) = true := by simp
  have HE : Hid (∀ w5, Calls Yba.prog 9 #[tm a, tm a] w5 fun e w' => e = .returned (.bool true) ∧ Below w5.heap.size w5 w') := by
    intro w5
    have := equal_any a a w5
    rw [hrefl] at this
    exact this
  have HX : Hid (∀ w5 w6 : World, Below w1.drew.heap.size w1.drew w5 → Below w5.heap.size w5 w6 → Below w.heap.size w w6) := by
    intro w5 w6 h5 h6
    have h15 : Below w1.heap.size w1 w5 := ((Below.refl w1.heap.size w1).drew).trans h5
    have := (HP2.out w5 h15).2.2
    rw [HBE.out]
    refine this.trans (h6.mono ?_)
    have h1 := h15.size
    have h2 := HPW.out.size
    rw [HBE.out] at h2
    omega
  have HC : Hid (∀ w5 : World, Below w1.drew.heap.size w1.drew w5 → Tb w5 B a) := fun w5 h5 => (HP2.out w5 (((Below.refl w1.heap.size w1).drew).trans h5)).1
  unfold tm at hadd
  clear s1 s2 n1 n2 tA tB hrefl
  go_region_with (first | (go_at_call 13; refine hadd.mono ?_; rintro e w5 ⟨rfl, hb5⟩; obtain ⟨k0, k1, k2, _⟩ := (HC.out w5 hb5).cells) | (go_at_call 9; refine (HE.out _).mono ?_; rintro e w6 ⟨rfl, hb6⟩))
  all_goals
    go_wp2
    go_ret
    exact ⟨rfl, HX.out _ _ hb5 hb6⟩

/-- The host that the law builds. -/
def hostA (std lps : Value) (ls ll : Int) : Array Value :=
  #[.string ⟨#[]⟩, .string ⟨#[]⟩, .int .u64 0, .int .i64 100, .pointer none, .float .f64 0, std, .slice none 0 0, .slice none 0 0, .slice none 0 0, .int .u64 0, .int .i64 200, .pointer none, lps, .int .u64 0, .int .i64 ls, .pointer none, .int .u64 0, .int .i64 ll, .pointer none, .int .i64 0, .int .i64 0]

set_option maxHeartbeats 1000000 in
theorem live_any (std lps : Value) (ls ll now : Int) (w : World) (hl : -2147483648 ≤ ll ∧ ll ≤ 2147483647) (hn : -2147483648 ≤ now ∧ now ≤ 2147483647) :
    Calls Yba.prog 17 #[.agg (hostA std lps ls ll), tm now] w fun e w' => e = .returned (.bool (decide (now - ll < 3))) ∧ Below w.heap.size w w' := by
  obtain ⟨W, hW⟩ : ∃ W, W = ((w.alloc (.cells (hostA std lps ls ll) 52)).alloc (.cells #[.int .u64 0, .int .i64 now, .pointer none] 28)) := ⟨_, rfl⟩
  have HW : Hid (Below w.heap.size w W ∧ w.heap.size ≤ W.heap.size) := by rw [hW]; exact ⟨((Below.refl _ _).alloc (Nat.le_refl _) _).alloc (by simp) _, by simp; omega⟩
  unfold hostA at hW
  have hsub := sub_any now ll W hn hl
  have HD : Hid (decide ((now - ll) * 1000000000 < 3000000000) = decide (now - ll < 3)) := by
    unfold Hid
    exact decide_eq_decide.2 (by omega)
  unfold tm hostA
  unfold tm at hsub
  go_enter Yba.func17, Yba.ntmps17
  go_wp2_with fail
  rw [← hW]
  refine hsub.mono ?_
  rintro e W1 ⟨rfl, hb⟩
  have HP : Hid (Below w.heap.size w W1) := HW.out.1.trans (hb.mono HW.out.2)
  clear hsub hW hb HW
  go_wp2
  go_ret
  exact ⟨by rw [← HD.out]; rfl, HP.out⟩

end Go.Proofs.Ybulkbofk
