/- The contracts of time.Time's methods on times that lie D nanoseconds from the zero time: wall D mod 10^9, ext D div 10^9, loc nil. -/
import Derived.Test.YbulkbofkTime
import Derived.Laws.Bits64b
namespace Go.Proofs.Ybulkbofk
open Go.RowKit

/-- n nanoseconds and s seconds. -/
def tn (n : Nat) (s : Int) : Value := .agg #[.int .u64 n, .int .i64 s, .pointer none]
def tnN (D : Int) : Nat := (D % 1000000000).toNat
def tnS (D : Int) : Int := D / 1000000000
/-- D nanoseconds from the zero time. -/
def tD (D : Int) : Value := tn (tnN D) (tnS D)

theorem tnN_lt (D : Int) : tnN D < 1000000000 := by unfold tnN; omega

theorem and_mono (n : Nat) (h : n < 1000000000) : bits BinOp.and IntKind.u64 (n : Int) 9223372036854775808 = 0 := by
  have := bits_and_u64_nat n 9223372036854775808 (by omega) (by decide)
  rw [show ((9223372036854775808 : Nat) : Int) = 9223372036854775808 from rfl] at this
  rw [this]
  have e : n &&& 9223372036854775808 = 0 := by
    apply Nat.eq_of_testBit_eq
    intro i
    rw [Nat.testBit_and, Nat.zero_testBit, show (9223372036854775808 : Nat) = 2 ^ 63 from by decide, Nat.testBit_two_pow]
    by_cases hi : 63 = i
    · subst hi
      rw [Nat.testBit_lt_two_pow (by omega)]
      rfl
    · simp [hi]
  rw [e]
  rfl

theorem and_mask (n : Nat) (h : n < 1000000000) : bits BinOp.and IntKind.u64 (n : Int) 1073741823 = n := by
  have := bits_and_u64_nat n 1073741823 (by omega) (by decide)
  rw [show ((1073741823 : Nat) : Int) = 1073741823 from rfl] at this
  rw [this, show (1073741823 : Nat) = 2 ^ 30 - 1 from by decide, Nat.and_two_pow_sub_one_eq_mod, Nat.mod_eq_of_lt (by omega)]

theorem or_zero (n : Nat) (h : n < 1000000000) : bits BinOp.or IntKind.u64 0 (n : Int) = n := by
  have := bits_or_u64_nat 0 n (by decide) (by omega)
  rw [show ((0 : Nat) : Int) = 0 from rfl] at this
  rw [this]
  simp

theorem and_and (n m : Nat) (hn : n < 1000000000) (hm : m < 1000000000) : bits BinOp.and IntKind.u64 (bits BinOp.and IntKind.u64 (n : Int) (m : Int)) 9223372036854775808 = 0 := by
  rw [bits_and_u64_nat n m (by omega) (by omega)]
  exact and_mono _ (Nat.lt_of_le_of_lt Nat.and_le_left hn)

set_option maxHeartbeats 400000 in
theorem sec_n (B o n : Nat) (s : Int) (w : World) (hn : n < 1000000000) (h0 : w.cell? ⟨B, o, none⟩ = some (.int .u64 n)) (h1 : w.cell? ⟨B, o + 1, none⟩ = some (.int .i64 s)) :
    Calls Yba.prog 23 #[.pointer (some ⟨B, o, none⟩)] w fun e w' => e = .returned (.int .i64 s) ∧ w' = w := by
  have e1 := and_mono n hn
  go_enter Yba.func23, Yba.ntmps23
  go_wp2
  go_ret
  exact ⟨rfl, rfl⟩

set_option maxHeartbeats 400000 in
theorem nsec_n (B o n : Nat) (w : World) (hn : n < 1000000000) (h0 : w.cell? ⟨B, o, none⟩ = some (.int .u64 n)) :
    Calls Yba.prog 24 #[.pointer (some ⟨B, o, none⟩)] w fun e w' => e = .returned (.int .i32 n) ∧ w' = w := by
  have e1 := and_mask n hn
  have e2 : IntKind.i32.wrap (n : Int) = n := by rw [IntKind.wrap_i32]; omega
  go_enter Yba.func24, Yba.ntmps24
  go_wp2
  go_ret
  exact ⟨rfl, rfl⟩

set_option maxHeartbeats 1000000 in
theorem addSec_n (B n : Nat) (s k : Int) (w : World) (hn : n < 1000000000) (h0 : w.cell? ⟨B, 0, none⟩ = some (.int .u64 n)) (h1 : w.cell? ⟨B, 1, none⟩ = some (.int .i64 s)) (f1 : w.frozen? ⟨B, 1, none⟩ = false)
    (hs : -10000000000 ≤ s ∧ s ≤ 10000000000) (hk : -10000000000 ≤ k ∧ k ≤ 10000000000) :
    Calls Yba.prog 25 #[.pointer (some ⟨B, 0, none⟩), .int .i64 k] w fun e w' => e = .returned (.tuple #[]) ∧ w' = w.setCell ⟨B, 1, none⟩ (.int .i64 (s + k)) := by
  have e0 := and_mono n hn
  by_cases hp : 0 < k
  · have e1 : s < s + k := by omega
    go_enter Yba.func25, Yba.ntmps25
    go_wp2
    go_end0
    exact ⟨rfl, rfl⟩
  · have e1 : ¬ (s < s + k) := by omega
    go_enter Yba.func25, Yba.ntmps25
    go_wp2
    go_end0
    exact ⟨rfl, rfl⟩

/-- A time's cells in a block of its own. -/
def Tc (w : World) (B n : Nat) (s : Int) : Prop := w.heap[B]? = some (.cells #[.int .u64 n, .int .i64 s, .pointer none] 28 (0, 0))
theorem Tc.cells {w : World} {B n : Nat} {s : Int} (h : Tc w B n s) : w.cell? ⟨B, 0, none⟩ = some (.int .u64 n) ∧ w.cell? ⟨B, 1, none⟩ = some (.int .i64 s) ∧ w.cell? ⟨B, 2, none⟩ = some (.pointer none) ∧ ∀ j, w.frozen? ⟨B, j, none⟩ = false := by
  unfold Tc at h
  refine ⟨?_, ?_, ?_, fun j => ?_⟩ <;> simp [World.cell?, World.frozen?, h]
theorem Tc.set0 {w : World} {B n : Nat} {s : Int} (h : Tc w B n s) (m : Nat) : Tc (w.setCell ⟨B, 0, none⟩ (.int .u64 m)) B m s := by
  unfold Tc at h ⊢
  rw [setCell_eq_setRow w B 0 _ 28 (0, 0) _ h, setRow_heap w B _ _ _ _ h]
  rfl
theorem Tc.set1 {w : World} {B n : Nat} {s : Int} (h : Tc w B n s) (k : Int) : Tc (w.setCell ⟨B, 1, none⟩ (.int .i64 k)) B n k := by
  unfold Tc at h ⊢
  rw [setCell_eq_setRow w B 1 _ 28 (0, 0) _ h, setRow_heap w B _ _ _ _ h]
  rfl
theorem Tc.set2 {w : World} {B n : Nat} {s : Int} (h : Tc w B n s) : Tc (w.setCell ⟨B, 2, none⟩ (.pointer none)) B n s := by
  unfold Tc at h ⊢
  rw [setCell_eq_setRow w B 2 _ 28 (0, 0) _ h, setRow_heap w B _ _ _ _ h]
  rfl
theorem Tc.other {w w' : World} {B n : Nat} {s : Int} (h : Tc w B n s) (he : w'.heap[B]? = w.heap[B]?) : Tc w' B n s := he.trans h

/-- The quotient and the rest that Go's Add reckons with, mended below nought. -/
theorem parts (D : Int) (hD : -9223372036854775808 ≤ D ∧ D ≤ 9223372036854775807) : ∃ q m : Int, D.tdiv 1000000000 = q ∧ D.tmod 1000000000 = m ∧ -9223372037 ≤ q ∧ q ≤ 9223372037 ∧ -1000000000 < m ∧ m < 1000000000 ∧
    (m < 0 → (tnN D : Int) = m + 1000000000 ∧ tnS D = q - 1) ∧ (¬ m < 0 → (tnN D : Int) = m ∧ tnS D = q) := by
  have h1 : -1000000000 < D.tmod 1000000000 := Int.lt_tmod_of_pos _ (by decide)
  have h2 : D.tmod 1000000000 < 1000000000 := Int.tmod_lt_of_pos _ (by decide)
  have h3 := Int.mul_tdiv_add_tmod D 1000000000
  refine ⟨_, _, rfl, rfl, by omega, by omega, h1, h2, fun h => ?_, fun h => ?_⟩ <;> unfold tnN tnS <;> omega

set_option maxHeartbeats 1000000 in
theorem addN (D : Int) (w : World) (hD : -9223372036854775808 ≤ D ∧ D ≤ 9223372036854775807) :
    Calls Yba.prog 13 #[tm 0, .int .i64 D] w fun e w' => e = .returned (tD D) ∧ Below w.heap.size w w' := by
  obtain ⟨q, m, d1, d2, hq1, hq2, hm1, hm2, hneg, hpos⟩ := parts D hD
  have hN := tnN_lt D
  have b1 : bits BinOp.andNot IntKind.u64 0 1073741823 = 0 := by decide +kernel
  have b2 := or_zero (tnN D) hN
  have b3 := and_mono (tnN D) hN
  have wm : IntKind.i32.wrap m = m := by rw [IntKind.wrap_i32]; omega
  obtain ⟨W, hW⟩ : ∃ W, W = (w.alloc (.cells #[.int .u64 0, .int .i64 0, .pointer none] 28)).alloc (.cells #[.int .u64 0, .int .i64 0, .pointer none] 28) := ⟨_, rfl⟩
  have tB : Tc W w.heap.size 0 0 := by rw [hW]; exact (Below.heap_alloc _ _ _ (by simp)).trans (heap_alloc_new w _)
  have tR : Tc W (w.heap.size + 1) 0 0 := by
    rw [hW]
    have := heap_alloc_new (w.alloc (.cells #[.int .u64 0, .int .i64 0, .pointer none] 28)) (.cells #[.int .u64 0, .int .i64 0, .pointer none] 28)
    unfold Tc
    simpa using this
  have HW : Hid (Below w.heap.size w W) := by rw [hW]; exact ((Below.refl _ _).alloc (Nat.le_refl _) _).alloc (by simp) _
  unfold tm tD tn
  by_cases hm : m < 0
  · obtain ⟨e1, e2⟩ := hneg hm
    clear hneg hpos
    go_enter Yba.func13, Yba.ntmps13
    go_upto_region 1 with fail
    rw [← hW]
    generalize hBe : w.heap.size = B at *
    have HBE : Hid (w.heap.size = B) := hBe
    clear hW hBe
    obtain ⟨c0, c1, c2, cf⟩ := tB.cells
    have hns := nsec_any B 0 W c0
    go_wp2_with fail
    refine hns.mono ?_
    rintro e w1 ⟨rfl, rfl⟩
    go_upto_region 10 with fail
    rw [← e1, b2, ← e2]
    have hS : -10000000000 ≤ tnS D ∧ tnS D ≤ 10000000000 := by omega
    clear e1 e2
    have tB2 := tB.set0 (tnN D)
    have tR2 : Tc (w1.setCell ⟨B, 0, none⟩ (.int .u64 (tnN D))) (B + 1) 0 0 := tR.other (Below.heap_setCell _ _ _ _ (by simp))
    have HW2 : Hid (Below B w (w1.setCell ⟨B, 0, none⟩ (.int .u64 (tnN D)))) := HW.out.setCell (Nat.le_refl _) _
    clear c0 c1 c2 cf hns tB tR HW
    generalize w1.setCell ⟨B, 0, none⟩ (.int .u64 (tnN D)) = W2 at tB2 tR2 HW2 ⊢
    obtain ⟨c0, c1, c2, cf⟩ := tB2.cells
    have hadd := addSec_n B (tnN D) 0 (tnS D) W2 hN c0 c1 (cf 1) (by omega) hS
    rw [Int.zero_add] at hadd
    go_wp2_with fail
    refine hadd.mono ?_
    rintro e w3 ⟨rfl, rfl⟩
    have tB3 := tB2.set1 (tnS D)
    have tR3 : Tc (W2.setCell ⟨B, 1, none⟩ (.int .i64 (tnS D))) (B + 1) 0 0 := tR2.other (Below.heap_setCell _ _ _ _ (by simp))
    have HW3 : Hid (Below B w (W2.setCell ⟨B, 1, none⟩ (.int .i64 (tnS D)))) := HW2.out.setCell (Nat.le_refl _) _
    clear c0 c1 c2 cf hadd tB2 tR2 HW2
    generalize W2.setCell ⟨B, 1, none⟩ (.int .i64 (tnS D)) = W3 at tB3 tR3 HW3 ⊢
    obtain ⟨c0, c1, c2, cf⟩ := tB3.cells
    obtain ⟨r0, r1, r2, rf⟩ := tR3.cells
    have HT : Hid (Tc (((W3.setCell ⟨B + 1, 0, none⟩ (.int .u64 (tnN D))).setCell ⟨B + 1, 1, none⟩ (.int .i64 (tnS D))).setCell ⟨B + 1, 2, none⟩ (.pointer none)) (B + 1) (tnN D) (tnS D) ∧ Below B w (((W3.setCell ⟨B + 1, 0, none⟩ (.int .u64 (tnN D))).setCell ⟨B + 1, 1, none⟩ (.int .i64 (tnS D))).setCell ⟨B + 1, 2, none⟩ (.pointer none))) :=
      ⟨((tR3.set0 (tnN D)).set1 (tnS D)).set2, ((HW3.out.setCell (Nat.le_succ _) _).setCell (Nat.le_succ _) _).setCell (Nat.le_succ _) _⟩
    clear tB3 tR3
    go_wp2
    exact bodyPost_ret (results_cell_row rfl _ _ (B + 1) 28 #[.int .u64 (tnN D), .int .i64 (tnS D), .pointer none] (0, 0) _ rfl HT.out.1 Yba.underlying28 rfl Yba.size28) rfl ⟨rfl, by rw [HBE.out]; exact HT.out.2⟩
  · obtain ⟨e1, e2⟩ := hpos hm
    clear hneg hpos
    go_enter Yba.func13, Yba.ntmps13
    go_upto_region 1 with fail
    rw [← hW]
    generalize hBe : w.heap.size = B at *
    have HBE : Hid (w.heap.size = B) := hBe
    clear hW hBe
    obtain ⟨c0, c1, c2, cf⟩ := tB.cells
    have hns := nsec_any B 0 W c0
    go_wp2_with fail
    refine hns.mono ?_
    rintro e w1 ⟨rfl, rfl⟩
    go_upto_region 10 with fail
    rw [← e1, b2, ← e2]
    have hS : -10000000000 ≤ tnS D ∧ tnS D ≤ 10000000000 := by omega
    clear e1 e2
    have tB2 := tB.set0 (tnN D)
    have tR2 : Tc (w1.setCell ⟨B, 0, none⟩ (.int .u64 (tnN D))) (B + 1) 0 0 := tR.other (Below.heap_setCell _ _ _ _ (by simp))
    have HW2 : Hid (Below B w (w1.setCell ⟨B, 0, none⟩ (.int .u64 (tnN D)))) := HW.out.setCell (Nat.le_refl _) _
    clear c0 c1 c2 cf hns tB tR HW
    generalize w1.setCell ⟨B, 0, none⟩ (.int .u64 (tnN D)) = W2 at tB2 tR2 HW2 ⊢
    obtain ⟨c0, c1, c2, cf⟩ := tB2.cells
    have hadd := addSec_n B (tnN D) 0 (tnS D) W2 hN c0 c1 (cf 1) (by omega) hS
    rw [Int.zero_add] at hadd
    go_wp2_with fail
    refine hadd.mono ?_
    rintro e w3 ⟨rfl, rfl⟩
    have tB3 := tB2.set1 (tnS D)
    have tR3 : Tc (W2.setCell ⟨B, 1, none⟩ (.int .i64 (tnS D))) (B + 1) 0 0 := tR2.other (Below.heap_setCell _ _ _ _ (by simp))
    have HW3 : Hid (Below B w (W2.setCell ⟨B, 1, none⟩ (.int .i64 (tnS D)))) := HW2.out.setCell (Nat.le_refl _) _
    clear c0 c1 c2 cf hadd tB2 tR2 HW2
    generalize W2.setCell ⟨B, 1, none⟩ (.int .i64 (tnS D)) = W3 at tB3 tR3 HW3 ⊢
    obtain ⟨c0, c1, c2, cf⟩ := tB3.cells
    obtain ⟨r0, r1, r2, rf⟩ := tR3.cells
    have HT : Hid (Tc (((W3.setCell ⟨B + 1, 0, none⟩ (.int .u64 (tnN D))).setCell ⟨B + 1, 1, none⟩ (.int .i64 (tnS D))).setCell ⟨B + 1, 2, none⟩ (.pointer none)) (B + 1) (tnN D) (tnS D) ∧ Below B w (((W3.setCell ⟨B + 1, 0, none⟩ (.int .u64 (tnN D))).setCell ⟨B + 1, 1, none⟩ (.int .i64 (tnS D))).setCell ⟨B + 1, 2, none⟩ (.pointer none))) :=
      ⟨((tR3.set0 (tnN D)).set1 (tnS D)).set2, ((HW3.out.setCell (Nat.le_succ _) _).setCell (Nat.le_succ _) _).setCell (Nat.le_succ _) _⟩
    clear tB3 tR3
    go_wp2
    exact bodyPost_ret (results_cell_row rfl _ _ (B + 1) 28 #[.int .u64 (tnN D), .int .i64 (tnS D), .pointer none] (0, 0) _ rfl HT.out.1 Yba.underlying28 rfl Yba.size28) rfl ⟨rfl, by rw [HBE.out]; exact HT.out.2⟩

/-- Two boxes of times. -/
theorem two_boxes_n (n1 n2 : Nat) (a b : Int) (w : World) : Tc ((w.alloc (.cells #[.int .u64 n1, .int .i64 a, .pointer none] 28)).alloc (.cells #[.int .u64 n2, .int .i64 b, .pointer none] 28)) w.heap.size n1 a ∧ Tc ((w.alloc (.cells #[.int .u64 n1, .int .i64 a, .pointer none] 28)).alloc (.cells #[.int .u64 n2, .int .i64 b, .pointer none] 28)) (w.heap.size + 1) n2 b ∧
    Below w.heap.size w ((w.alloc (.cells #[.int .u64 n1, .int .i64 a, .pointer none] 28)).alloc (.cells #[.int .u64 n2, .int .i64 b, .pointer none] 28)) := by
  refine ⟨(Below.heap_alloc _ _ _ (by simp)).trans (heap_alloc_new w _), ?_, ((Below.refl _ _).alloc (Nat.le_refl _) _).alloc (by simp) _⟩
  have := heap_alloc_new (w.alloc (.cells #[.int .u64 n1, .int .i64 a, .pointer none] 28)) (.cells #[.int .u64 n2, .int .i64 b, .pointer none] 28)
  unfold Tc
  simpa using this

set_option maxHeartbeats 1000000 in
theorem equal_n (n1 : Nat) (a : Int) (n2 : Nat) (b : Int) (w : World) (hn1 : n1 < 1000000000) (hn2 : n2 < 1000000000) : Calls Yba.prog 9 #[tn n1 a, tn n2 b] w fun e w' => e = .returned (.bool (a == b && n1 == n2)) ∧ Below w.heap.size w w' := by
  have b3 := and_and n1 n2 hn1 hn2
  obtain ⟨tA, tB, hb⟩ := two_boxes_n n1 n2 a b w
  unfold tn
  go_enter Yba.func9, Yba.ntmps9
  go_upto_region 1 with fail
  have HB : Hid (Below w.heap.size w ((w.alloc (.cells #[.int .u64 n1, .int .i64 a, .pointer none] 28)).alloc (.cells #[.int .u64 n2, .int .i64 b, .pointer none] 28))) := hb
  clear hb
  generalize (w.alloc (.cells #[.int .u64 n1, .int .i64 a, .pointer none] 28)).alloc (.cells #[.int .u64 n2, .int .i64 b, .pointer none] 28) = W at tA tB HB ⊢
  have HP : Hid (Below w.heap.size w W) := HB
  generalize w.heap.size + 1 = C at tB ⊢
  obtain ⟨B, hB⟩ : ∃ B, B = w.heap.size := ⟨_, rfl⟩
  rw [← hB] at tA ⊢
  clear HB hB
  obtain ⟨a0, a1, a2, _⟩ := tA.cells
  obtain ⟨c0, c1, c2, _⟩ := tB.cells
  have s1 := sec_n B 0 n1 a W hn1 a0 a1
  have s2 := sec_n C 0 n2 b W hn2 c0 c1
  have m1 := nsec_n B 0 n1 W hn1 a0
  have m2 := nsec_n C 0 n2 W hn2 c0
  clear tA tB
  by_cases hab : a = b
  · subst hab
    go_wp2_with fail
    refine s1.mono ?_
    rintro e w1 ⟨rfl, rfl⟩
    go_wp2_with fail
    refine s2.mono ?_
    rintro e w1 ⟨rfl, rfl⟩
    go_wp2_with fail
    refine m1.mono ?_
    rintro e w1 ⟨rfl, rfl⟩
    go_wp2_with fail
    refine m2.mono ?_
    rintro e w1 ⟨rfl, rfl⟩
    go_wp2
    go_ret
    exact ⟨by rw [show ((n1 : Int) == (n2 : Int)) = (n1 == n2) from by rw [Bool.eq_iff_iff, beq_iff_eq, beq_iff_eq]; omega]; simp, HP.out⟩
  · have hab2 : (a == b) = false := by simpa using hab
    go_wp2_with fail
    refine s1.mono ?_
    rintro e w1 ⟨rfl, rfl⟩
    go_wp2_with fail
    refine s2.mono ?_
    rintro e w1 ⟨rfl, rfl⟩
    go_wp2
    go_ret
    exact ⟨by simp [hab], HP.out⟩

set_option maxHeartbeats 1000000 in
theorem before_n (n1 : Nat) (a : Int) (n2 : Nat) (b : Int) (w : World) (hn1 : n1 < 1000000000) (hn2 : n2 < 1000000000) : Calls Yba.prog 29 #[tn n1 a, tn n2 b] w fun e w' => e = .returned (.bool (decide (a < b ∨ (a = b ∧ n1 < n2)))) ∧ Below w.heap.size w w' := by
  have b3 := and_and n1 n2 hn1 hn2
  obtain ⟨tA, tB, hb⟩ := two_boxes_n n1 n2 a b w
  unfold tn
  go_enter Yba.func29, Yba.ntmps29
  go_upto_region 1 with fail
  have HB : Hid (Below w.heap.size w ((w.alloc (.cells #[.int .u64 n1, .int .i64 a, .pointer none] 28)).alloc (.cells #[.int .u64 n2, .int .i64 b, .pointer none] 28))) := hb
  clear hb
  generalize (w.alloc (.cells #[.int .u64 n1, .int .i64 a, .pointer none] 28)).alloc (.cells #[.int .u64 n2, .int .i64 b, .pointer none] 28) = W at tA tB HB ⊢
  have HP : Hid (Below w.heap.size w W) := HB
  generalize w.heap.size + 1 = C at tB ⊢
  obtain ⟨B, hB⟩ : ∃ B, B = w.heap.size := ⟨_, rfl⟩
  rw [← hB] at tA ⊢
  clear HB hB
  obtain ⟨a0, a1, a2, _⟩ := tA.cells
  obtain ⟨c0, c1, c2, _⟩ := tB.cells
  have s1 := sec_n B 0 n1 a W hn1 a0 a1
  have s2 := sec_n C 0 n2 b W hn2 c0 c1
  have m1 := nsec_n B 0 n1 W hn1 a0
  have m2 := nsec_n C 0 n2 W hn2 c0
  clear tA tB
  rcases Int.lt_trichotomy a b with h | h | h
  · have h1 : decide (a < b) = true := by simpa using h
    go_wp2_with fail
    refine s1.mono ?_
    rintro e w1 ⟨rfl, rfl⟩
    go_wp2_with fail
    refine s2.mono ?_
    rintro e w1 ⟨rfl, rfl⟩
    go_wp2
    go_ret
    exact ⟨by simp [h], HP.out⟩
  · subst h
    go_wp2_with fail
    refine s1.mono ?_
    rintro e w1 ⟨rfl, rfl⟩
    go_wp2_with fail
    refine s2.mono ?_
    rintro e w1 ⟨rfl, rfl⟩
    go_wp2_with fail
    refine m1.mono ?_
    rintro e w1 ⟨rfl, rfl⟩
    go_wp2_with fail
    refine m2.mono ?_
    rintro e w1 ⟨rfl, rfl⟩
    go_wp2
    go_ret
    exact ⟨by simp, HP.out⟩
  · have h1 : ¬ (a < b) := by omega
    have h2 : ¬ (a = b) := by omega
    go_wp2_with fail
    refine s1.mono ?_
    rintro e w1 ⟨rfl, rfl⟩
    go_wp2_with fail
    refine s2.mono ?_
    rintro e w1 ⟨rfl, rfl⟩
    go_wp2
    go_ret
    exact ⟨by simp [h2] <;> omega, HP.out⟩

theorem before_D (D E : Int) (w : World) : Calls Yba.prog 29 #[tD D, tD E] w fun e w' => e = .returned (.bool (decide (D < E))) ∧ Below w.heap.size w w' := by
  refine (before_n (tnN D) (tnS D) (tnN E) (tnS E) w (tnN_lt D) (tnN_lt E)).mono ?_
  rintro e w' ⟨rfl, h⟩
  refine ⟨?_, h⟩
  have : (tnS D < tnS E ∨ (tnS D = tnS E ∧ tnN D < tnN E)) ↔ D < E := by unfold tnS tnN; omega
  simp only [this]

theorem equal_D (D : Int) (w : World) : Calls Yba.prog 9 #[tD D, tD D] w fun e w' => e = .returned (.bool true) ∧ Below w.heap.size w w' := by
  refine (equal_n (tnN D) (tnS D) (tnN D) (tnS D) w (tnN_lt D) (tnN_lt D)).mono ?_
  rintro e w' ⟨rfl, h⟩
  exact ⟨by simp, h⟩

end Go.Proofs.Ybulkbofk
