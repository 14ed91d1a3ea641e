/-
  The contracts of time.Time's methods on times that hold whole seconds: wall 0, ext the seconds, loc nil.
-/
import Derived.Test.YbulkbofkRows
import Derived.WalkKit
import Derived.WalkSpells
import Derived.BigQuiet
import Derived.Below
import Derived.Deep.RegionWith
import Derived.Deep.Cut
import Derived.Deep.CutRange
import Derived.Deep.CutBlock
import Derived.Deep.Draws
import Derived.Laws.CopyRow
namespace Go.Proofs.Ybulkbofk
open Go.RowKit

/-- A fact that the walk's 'simp' leaves alone. -/
def Hid (p : Prop) : Prop := p
theorem Hid.out {p : Prop} (h : Hid p) : p := h

/-- Whole seconds. -/
def tm (s : Int) : Value := .agg #[.int .u64 0, .int .i64 s, .pointer none]

set_option maxHeartbeats 400000 in
theorem sec_any (B o : Nat) (s : Int) (w : World) (h0 : w.cell? ⟨B, o, none⟩ = some (.int .u64 0)) (h1 : w.cell? ⟨B, o + 1, none⟩ = some (.int .i64 s)) :
    Calls Yba.prog 23 #[.pointer (some ⟨B, o, none⟩)] w fun e w' => e = .returned (.int .i64 s) ∧ w' = w := by
  go_enter Yba.func23, Yba.ntmps23
  go_wp2
  go_ret
  exact ⟨rfl, rfl⟩

set_option maxHeartbeats 400000 in
theorem nsec_any (B o : Nat) (w : World) (h0 : w.cell? ⟨B, o, none⟩ = some (.int .u64 0)) :
    Calls Yba.prog 24 #[.pointer (some ⟨B, o, none⟩)] w fun e w' => e = .returned (.int .i32 0) ∧ w' = w := by
  have e1 : bits BinOp.and IntKind.u64 0 1073741823 = 0 := by decide +kernel
  go_enter Yba.func24, Yba.ntmps24
  go_wp2
  go_ret
  exact ⟨rfl, rfl⟩

set_option maxHeartbeats 1000000 in
theorem addSec_any (B : Nat) (s k : Int) (w : World) (h0 : w.cell? ⟨B, 0, none⟩ = some (.int .u64 0)) (h1 : w.cell? ⟨B, 1, none⟩ = some (.int .i64 s)) (f1 : w.frozen? ⟨B, 1, none⟩ = false)
    (hs : -10000000000 ≤ s ∧ s ≤ 10000000000) (hk : -10000000000 ≤ k ∧ k ≤ 10000000000) :
    Calls Yba.prog 25 #[.pointer (some ⟨B, 0, none⟩), .int .i64 k] w fun e w' => e = .returned (.tuple #[]) ∧ w' = w.setCell ⟨B, 1, none⟩ (.int .i64 (s + k)) := by
  by_cases hp : 0 < k
  · have e1 : s < s + k := by omega
    go_enter Yba.func25, Yba.ntmps25
    go_wp2
    go_end0
    exact ⟨rfl, rfl⟩
  · have e1 : ¬ (s < s + k) := by omega
    go_enter Yba.func25, Yba.ntmps25
    go_wp2
    go_end0
    exact ⟨rfl, rfl⟩

/-- A time's cells in a block of its own. -/
def Tb (w : World) (B : Nat) (s : Int) : Prop := w.heap[B]? = some (.cells #[.int .u64 0, .int .i64 s, .pointer none] 28 (0, 0))
theorem Tb.cells {w : World} {B : Nat} {s : Int} (h : Tb w B s) : w.cell? ⟨B, 0, none⟩ = some (.int .u64 0) ∧ w.cell? ⟨B, 1, none⟩ = some (.int .i64 s) ∧ w.cell? ⟨B, 2, none⟩ = some (.pointer none) ∧ ∀ j, w.frozen? ⟨B, j, none⟩ = false := by
  unfold Tb at h
  refine ⟨?_, ?_, ?_, fun j => ?_⟩ <;> simp [World.cell?, World.frozen?, h]
theorem Tb.set0 {w : World} {B : Nat} {s : Int} (h : Tb w B s) : Tb (w.setCell ⟨B, 0, none⟩ (.int .u64 0)) B s := by
  unfold Tb at h ⊢
  rw [setCell_eq_setRow w B 0 _ 28 (0, 0) _ h, setRow_heap w B _ _ _ _ h]
  rfl
theorem Tb.set1 {w : World} {B : Nat} {s : Int} (h : Tb w B s) (k : Int) : Tb (w.setCell ⟨B, 1, none⟩ (.int .i64 k)) B k := by
  unfold Tb at h ⊢
  rw [setCell_eq_setRow w B 1 _ 28 (0, 0) _ h, setRow_heap w B _ _ _ _ h]
  rfl
theorem Tb.set2 {w : World} {B : Nat} {s : Int} (h : Tb w B s) : Tb (w.setCell ⟨B, 2, none⟩ (.pointer none)) B s := by
  unfold Tb at h ⊢
  rw [setCell_eq_setRow w B 2 _ 28 (0, 0) _ h, setRow_heap w B _ _ _ _ h]
  rfl
theorem Tb.other {w w' : World} {B : Nat} {s : Int} (h : Tb w B s) (he : w'.heap[B]? = w.heap[B]?) : Tb w' B s := he.trans h

theorem Yba.size28 : (Yba.prog.info? 28).map (·.size) = some 3 := by kernel_rfl

set_option maxHeartbeats 1000000 in
theorem add_any (s k D : Int) (w : World) (hs : -10000000000 ≤ s ∧ s ≤ 10000000000) (hk : -9000000000 ≤ k ∧ k ≤ 9000000000) (hD : D = k * 1000000000) :
    Calls Yba.prog 13 #[tm s, .int .i64 D] w fun e w' => e = .returned (tm (s + k)) ∧ Below w.heap.size w w' := by
  have d1 : D.tdiv 1000000000 = k := by rw [hD]; exact Int.mul_tdiv_cancel _ (by omega)
  have d2 : D.tmod 1000000000 = 0 := by rw [hD]; exact Int.mul_tmod_left _ _
  have b1 : bits BinOp.andNot IntKind.u64 0 1073741823 = 0 := by decide +kernel
  have b2 : bits BinOp.or IntKind.u64 0 0 = 0 := by decide +kernel
  have b3 : bits BinOp.and IntKind.u64 0 9223372036854775808 = 0 := by decide +kernel
  obtain ⟨W, hW⟩ : ∃ W, W = (w.alloc (.cells #[.int .u64 0, .int .i64 s, .pointer none] 28)).alloc (.cells #[.int .u64 0, .int .i64 0, .pointer none] 28) := ⟨_, rfl⟩
  have tB : Tb W w.heap.size s := by rw [hW]; exact (Below.heap_alloc _ _ _ (by simp)).trans (heap_alloc_new w _)
  have tR : Tb W (w.heap.size + 1) 0 := by
    rw [hW]
    have := heap_alloc_new (w.alloc (.cells #[.int .u64 0, .int .i64 s, .pointer none] 28)) (.cells #[.int .u64 0, .int .i64 0, .pointer none] 28)
    unfold Tb
    simpa using this
  have HW : Hid (Below w.heap.size w W) := by rw [hW]; exact ((Below.refl _ _).alloc (Nat.le_refl _) _).alloc (by simp) _
  unfold tm
  go_enter Yba.func13, Yba.ntmps13
  go_upto_region 1 with fail
  rw [← hW]

  generalize hBe : w.heap.size = B at *
  have HBE : Hid (w.heap.size = B) := hBe
  clear hW hBe
  obtain ⟨c0, c1, c2, cf⟩ := tB.cells
  have hns := nsec_any B 0 W c0
  go_wp2_with fail
  refine hns.mono ?_
  rintro e w1 ⟨rfl, rfl⟩
  go_upto_region 10 with fail
  have tB2 := tB.set0
  have tR2 : Tb (w1.setCell ⟨B, 0, none⟩ (.int .u64 0)) (B + 1) 0 := tR.other (Below.heap_setCell _ _ _ _ (by simp))
  have HW2 : Hid (Below B w (w1.setCell ⟨B, 0, none⟩ (.int .u64 0))) := HW.out.setCell (Nat.le_refl _) _
  clear c0 c1 c2 cf hns tB tR HW
  generalize w1.setCell ⟨B, 0, none⟩ (.int .u64 0) = W2 at tB2 tR2 HW2 ⊢
  obtain ⟨c0, c1, c2, cf⟩ := tB2.cells
  have hadd := addSec_any B s k W2 c0 c1 (cf 1) hs (by omega)
  go_wp2_with fail
  refine hadd.mono ?_
  rintro e w3 ⟨rfl, rfl⟩
  have tB3 := tB2.set1 (s + k)
  have tR3 : Tb (W2.setCell ⟨B, 1, none⟩ (.int .i64 (s + k))) (B + 1) 0 := tR2.other (Below.heap_setCell _ _ _ _ (by simp))
  have HW3 : Hid (Below B w (W2.setCell ⟨B, 1, none⟩ (.int .i64 (s + k)))) := HW2.out.setCell (Nat.le_refl _) _
  clear c0 c1 c2 cf hadd tB2 tR2 HW2
  generalize W2.setCell ⟨B, 1, none⟩ (.int .i64 (s + k)) = W3 at tB3 tR3 HW3 ⊢
  obtain ⟨c0, c1, c2, cf⟩ := tB3.cells
  obtain ⟨r0, r1, r2, rf⟩ := tR3.cells
  have HT : Hid (Tb (((W3.setCell ⟨B + 1, 0, none⟩ (.int .u64 0)).setCell ⟨B + 1, 1, none⟩ (.int .i64 (s + k))).setCell ⟨B + 1, 2, none⟩ (.pointer none)) (B + 1) (s + k) ∧ Below B w (((W3.setCell ⟨B + 1, 0, none⟩ (.int .u64 0)).setCell ⟨B + 1, 1, none⟩ (.int .i64 (s + k))).setCell ⟨B + 1, 2, none⟩ (.pointer none))) :=
    ⟨((tR3.set0).set1 (s + k)).set2, ((HW3.out.setCell (Nat.le_succ _) _).setCell (Nat.le_succ _) _).setCell (Nat.le_succ _) _⟩
  clear tB3 tR3
  go_wp2
  exact bodyPost_ret (results_cell_row rfl _ _ (B + 1) 28 #[.int .u64 0, .int .i64 (s + k), .pointer none] (0, 0) _ rfl HT.out.1 Yba.underlying28 rfl Yba.size28) rfl ⟨rfl, by rw [HBE.out]; exact HT.out.2⟩

set_option maxHeartbeats 1000000 in
theorem isZero_any (s : Int) (w : World) : Calls Yba.prog 8 #[tm s] w fun e w' => e = .returned (.bool (s == 0)) ∧ Below w.heap.size w w' := by
  unfold tm
  go_enter Yba.func8, Yba.ntmps8
  go_wp2
  go_ret
  exact ⟨rfl, (Below.refl _ _).alloc (Nat.le_refl _) _⟩

/-- Two boxes of times. -/
theorem two_boxes (a b : Int) (w : World) : Tb ((w.alloc (.cells #[.int .u64 0, .int .i64 a, .pointer none] 28)).alloc (.cells #[.int .u64 0, .int .i64 b, .pointer none] 28)) w.heap.size a ∧ Tb ((w.alloc (.cells #[.int .u64 0, .int .i64 a, .pointer none] 28)).alloc (.cells #[.int .u64 0, .int .i64 b, .pointer none] 28)) (w.heap.size + 1) b ∧
    Below w.heap.size w ((w.alloc (.cells #[.int .u64 0, .int .i64 a, .pointer none] 28)).alloc (.cells #[.int .u64 0, .int .i64 b, .pointer none] 28)) := by
  refine ⟨(Below.heap_alloc _ _ _ (by simp)).trans (heap_alloc_new w _), ?_, ((Below.refl _ _).alloc (Nat.le_refl _) _).alloc (by simp) _⟩
  have := heap_alloc_new (w.alloc (.cells #[.int .u64 0, .int .i64 a, .pointer none] 28)) (.cells #[.int .u64 0, .int .i64 b, .pointer none] 28)
  unfold Tb
  simpa using this

set_option maxHeartbeats 1000000 in
theorem equal_any (a b : Int) (w : World) : Calls Yba.prog 9 #[tm a, tm b] w fun e w' => e = .returned (.bool (a == b)) ∧ Below w.heap.size w w' := by
  have b3 : bits BinOp.and IntKind.u64 0 0 = 0 := by decide +kernel
  have b4 : bits BinOp.and IntKind.u64 0 9223372036854775808 = 0 := by decide +kernel
  obtain ⟨tA, tB, hb⟩ := two_boxes a b w
  unfold tm
  go_enter Yba.func9, Yba.ntmps9
  go_upto_region 1 with fail
  have HB : Hid (Below w.heap.size w ((w.alloc (.cells #[.int .u64 0, .int .i64 a, .pointer none] 28)).alloc (.cells #[.int .u64 0, .int .i64 b, .pointer none] 28))) := hb
  clear hb
  generalize (w.alloc (.cells #[.int .u64 0, .int .i64 a, .pointer none] 28)).alloc (.cells #[.int .u64 0, .int .i64 b, .pointer none] 28) = W at tA tB HB ⊢
  have HP : Hid (Below w.heap.size w W) := HB
  generalize w.heap.size + 1 = C at tB ⊢
  obtain ⟨B, hB⟩ : ∃ B, B = w.heap.size := ⟨_, rfl⟩
  rw [← hB] at tA ⊢
  clear HB hB
  obtain ⟨a0, a1, a2, _⟩ := tA.cells
  obtain ⟨c0, c1, c2, _⟩ := tB.cells
  have s1 := sec_any B 0 a W a0 a1
  have s2 := sec_any C 0 b W c0 c1
  have n1 := nsec_any B 0 W a0
  have n2 := nsec_any C 0 W c0
  clear tA tB
  by_cases hab : a = b
  · subst hab
    go_wp2_with fail
    refine s1.mono ?_
    rintro e w1 ⟨rfl, rfl⟩
    go_wp2_with fail
    refine s2.mono ?_
    rintro e w1 ⟨rfl, rfl⟩
    go_wp2_with fail
    refine n1.mono ?_
    rintro e w1 ⟨rfl, rfl⟩
    go_wp2_with fail
    refine n2.mono ?_
    rintro e w1 ⟨rfl, rfl⟩
    go_wp2
    go_ret
    exact ⟨by simp, HP.out⟩
  · have hab2 : (a == b) = false := by simpa using hab
    go_wp2_with fail
    refine s1.mono ?_
    rintro e w1 ⟨rfl, rfl⟩
    go_wp2_with fail
    refine s2.mono ?_
    rintro e w1 ⟨rfl, rfl⟩
    go_wp2
    go_ret
    exact ⟨by simp [hab], HP.out⟩

set_option maxHeartbeats 1000000 in
theorem after_any (a b : Int) (w : World) : Calls Yba.prog 18 #[tm a, tm b] w fun e w' => e = .returned (.bool (decide (b < a))) ∧ Below w.heap.size w w' := by
  have b3 : bits BinOp.and IntKind.u64 0 0 = 0 := by decide +kernel
  have b4 : bits BinOp.and IntKind.u64 0 9223372036854775808 = 0 := by decide +kernel
  obtain ⟨tA, tB, hb⟩ := two_boxes a b w
  unfold tm
  go_enter Yba.func18, Yba.ntmps18
  go_upto_region 1 with fail
  have HB : Hid (Below w.heap.size w ((w.alloc (.cells #[.int .u64 0, .int .i64 a, .pointer none] 28)).alloc (.cells #[.int .u64 0, .int .i64 b, .pointer none] 28))) := hb
  clear hb
  generalize (w.alloc (.cells #[.int .u64 0, .int .i64 a, .pointer none] 28)).alloc (.cells #[.int .u64 0, .int .i64 b, .pointer none] 28) = W at tA tB HB ⊢
  have HP : Hid (Below w.heap.size w W) := HB
  generalize w.heap.size + 1 = C at tB ⊢
  obtain ⟨B, hB⟩ : ∃ B, B = w.heap.size := ⟨_, rfl⟩
  rw [← hB] at tA ⊢
  clear HB hB
  obtain ⟨a0, a1, a2, _⟩ := tA.cells
  obtain ⟨c0, c1, c2, _⟩ := tB.cells
  have s1 := sec_any B 0 a W a0 a1
  have s2 := sec_any C 0 b W c0 c1
  have n1 := nsec_any B 0 W a0
  have n2 := nsec_any C 0 W c0
  clear tA tB
  rcases Int.lt_trichotomy a b with h | h | h
  · have h1 : ¬ (b < a) := by omega
    have h2 : ¬ (a = b) := by omega
    go_wp2_with fail
    refine s1.mono ?_
    rintro e w1 ⟨rfl, rfl⟩
    go_wp2_with fail
    refine s2.mono ?_
    rintro e w1 ⟨rfl, rfl⟩
    go_wp2
    go_ret
    exact ⟨by simp <;> omega, HP.out⟩
  · subst h
    go_wp2_with fail
    refine s1.mono ?_
    rintro e w1 ⟨rfl, rfl⟩
    go_wp2_with fail
    refine s2.mono ?_
    rintro e w1 ⟨rfl, rfl⟩
    go_wp2_with fail
    refine n1.mono ?_
    rintro e w1 ⟨rfl, rfl⟩
    go_wp2_with fail
    refine n2.mono ?_
    rintro e w1 ⟨rfl, rfl⟩
    go_wp2
    go_ret
    exact ⟨by simp, HP.out⟩
  · have h1 : decide (b < a) = true := by simpa using h
    go_wp2_with fail
    refine s1.mono ?_
    rintro e w1 ⟨rfl, rfl⟩
    go_wp2_with fail
    refine s2.mono ?_
    rintro e w1 ⟨rfl, rfl⟩
    go_wp2
    go_ret
    exact ⟨by simp <;> omega, HP.out⟩

end Go.Proofs.Ybulkbofk
