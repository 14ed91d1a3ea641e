/-
  Rows of structs in memory; the float i/2; the contracts of zzs3247astate and of process.
-/
import Derived.Test.YbulkbofkHost
import Derived.Laws.Cover2
import Derived.Laws.FloatArith
import Derived.BigRegion
namespace Go.Proofs.Ybulkbofk
open Go.RowKit

theorem setCells_row (g : Nat) (t : TypeId) : ∀ (vs : List Value) (o : Nat) (cur : Array Value) (w : World), w.heap[g]? = some (.cells cur t (0, 0)) → o + vs.length ≤ cur.size →
    w.setCells g o vs = w.setRow g (cur.toList.take o ++ vs ++ cur.toList.drop (o + vs.length)).toArray
  | [], o, cur, w, hg, _ => by
    simp only [World.setCells, List.append_nil, List.length_nil, Nat.add_zero, List.take_append_drop, Array.toArray_toList]
    rw [setRow_self w g cur t (0, 0) hg]
  | v :: vs, o, cur, w, hg, hl => by
    simp only [World.setCells]
    rw [setCell_eq_setRow w g o cur t (0, 0) v hg]
    simp only [List.length_cons] at hl
    rw [setCells_row g t vs (o + 1) (cur.setIfInBounds o v) (w.setRow g (cur.setIfInBounds o v)) (setRow_heap w g _ _ _ _ hg) (by simp; omega), setRow_setRow]
    congr 2
    rw [Array.toList_setIfInBounds, List.set_eq_take_append_cons_drop, if_pos (by simp; omega)]
    have ho : (cur.toList.take o).length = o := by simp; omega
    rw [show o + 1 = (cur.toList.take o).length + 1 from by omega, List.take_length_add_append, show (cur.toList.take o).length + 1 + vs.length = (cur.toList.take o).length + (1 + vs.length) from by omega, List.drop_length_add_append]
    simp only [List.take_succ_cons, List.take_zero, List.append_assoc, List.cons_append, List.nil_append, List.length_cons]
    rw [show 1 + vs.length = vs.length + 1 from by omega, List.drop_succ_cons, List.drop_drop]
    congr 4
    omega

/-- A row of n structs of sz cells each. -/
def Row (w : World) (S : Nat) (t : TypeId) (sz n : Nat) (f : Nat → List Value) : Prop :=
  ∃ cur : Array Value, w.heap[S]? = some (.cells cur t (0, 0)) ∧ cur.size = n * sz ∧ ∀ i, i < n → (f i).length = sz ∧ ∀ j, j < sz → cur[i * sz + j]? = (f i)[j]?

section
variable {w w' : World} {S sz n : Nat} {t : TypeId} {f g : Nat → List Value}
theorem Row.same (h : Row w S t sz n f) (he : w'.heap[S]? = w.heap[S]?) : Row w' S t sz n f := by
  obtain ⟨cur, h1, h2⟩ := h
  exact ⟨cur, he.trans h1, h2⟩
theorem Row.lt (h : Row w S t sz n f) : S < w.heap.size := by
  obtain ⟨cur, h1, _⟩ := h
  exact (Array.getElem?_eq_some_iff.1 h1).1
theorem Row.free (h : Row w S t sz n f) (o : Nat) : w.frozen? ⟨S, o, none⟩ = false := by
  obtain ⟨cur, h1, _⟩ := h
  simp [World.frozen?, h1]
theorem Row.cell (h : Row w S t sz n f) (i j : Nat) (hi : i < n) (hj : j < sz) : w.cell? ⟨S, i * sz + j, none⟩ = (f i)[j]? := by
  obtain ⟨cur, h1, h2, h3⟩ := h
  rw [← (h3 i hi).2 j hj]
  simp [World.cell?, h1]
theorem Row.congr (h : Row w S t sz n f) (he : ∀ i, i < n → f i = g i) : Row w S t sz n g := by
  obtain ⟨cur, h1, h2, h3⟩ := h
  exact ⟨cur, h1, h2, fun i hi => by rw [← he i hi]; exact h3 i hi⟩
theorem mul_fits {i sz n : Nat} (hi : i < n) : i * sz + sz ≤ n * sz := by
  have := Nat.mul_le_mul_right sz hi
  rw [Nat.succ_mul] at this
  exact this
theorem row_apart {i k sz j : Nat} (hne : k ≠ i) (hj : j < sz) : k * sz + j < i * sz ∨ i * sz + sz ≤ k * sz + j := by
  rcases Nat.lt_or_gt_of_ne hne with h | h
  · left
    have := mul_fits (sz := sz) h
    omega
  · right
    have := mul_fits (sz := sz) h
    omega
theorem Row.set (h : Row w S t sz n f) (i : Nat) (hi : i < n) (vs : List Value) (hl : vs.length = sz) : Row (w.setCells S (i * sz) vs) S t sz n (fun k => if k = i then vs else f k) ∧ ∀ b, b ≠ S → (w.setCells S (i * sz) vs).heap[b]? = w.heap[b]? := by
  obtain ⟨cur, h1, h2, h3⟩ := h
  have hfit := mul_fits (sz := sz) hi
  rw [setCells_row S t vs (i * sz) cur w h1 (by omega)]
  refine ⟨⟨_, setRow_heap w S _ _ _ _ h1, ?_, fun k hk => ?_⟩, fun b hb => setRow_other w S b _ hb⟩
  · simp only [List.size_toArray, List.length_append, List.length_take, List.length_drop, Array.length_toList]
    omega
  · by_cases e : k = i
    · subst e
      simp only [if_true]
      refine ⟨hl, fun j hj => ?_⟩
      simp only [List.getElem?_toArray, List.append_assoc]
      rw [List.getElem?_append_right (by simp; omega), List.getElem?_append_left (by simp; omega)]
      congr 1
      simp
      omega
    · simp only [if_neg e]
      refine ⟨(h3 k hk).1, fun j hj => ?_⟩
      rw [← (h3 k hk).2 j hj]
      simp only [List.getElem?_toArray, List.append_assoc]
      rcases row_apart (sz := sz) e hj with hlt | hge
      · rw [List.getElem?_append_left (by simp; omega), List.getElem?_take_of_lt hlt, Array.getElem?_toList]
      · rw [List.getElem?_append_right (by simp; omega), List.getElem?_append_right (by simp; omega), List.getElem?_drop, Array.getElem?_toList]
        congr 1
        simp
        omega
theorem Row.one (h : Row w S t sz n f) (i j : Nat) (hi : i < n) (hj : j < sz) (v : Value) : Row (w.setCell ⟨S, i * sz + j, none⟩ v) S t sz n (fun k => if k = i then (f i).set j v else f k) := by
  obtain ⟨cur, h1, h2, h3⟩ := h
  have hfit := mul_fits (sz := sz) hi
  refine ⟨cur.setIfInBounds (i * sz + j) v, ?_, by simpa using h2, fun k hk => ?_⟩
  · rw [setCell_eq_setRow w S _ cur t (0, 0) _ h1, setRow_heap w S _ _ _ _ h1]
  · by_cases e : k = i
    · subst e
      simp only [if_true]
      refine ⟨by simpa using (h3 k hk).1, fun j' hj' => ?_⟩
      by_cases e2 : j = j'
      · subst e2
        rw [Array.getElem?_setIfInBounds_self_of_lt (by omega), List.getElem?_set_self (by rw [(h3 k hk).1]; exact hj)]
      · rw [Array.getElem?_setIfInBounds_ne (by omega), List.getElem?_set_ne e2]
        exact (h3 k hk).2 j' hj'
    · simp only [if_neg e]
      refine ⟨(h3 k hk).1, fun j' hj' => ?_⟩
      rw [Array.getElem?_setIfInBounds_ne (by rcases row_apart (sz := sz) e hj' with h | h <;> omega)]
      exact (h3 k hk).2 j' hj'
end

/-! ### The float i/2 -/
def hf (i : Nat) : Nat := (FloatKind.f64.format.div (FloatKind.f64.nearest (i : Int)) 4611686018427387904).getD 0
theorem half_all : (List.range 1025).all (fun i => FloatKind.f64.format.div (FloatKind.f64.nearest (i : Int)) 4611686018427387904 == some (hf i) && (FloatKind.f64.format.order (hf i) (hf i) == some .eq)) = true := by decide +kernel
theorem half_ok (i : Nat) (h : i ≤ 1024) : FloatKind.f64.format.div (FloatKind.f64.nearest (i : Int)) 4611686018427387904 = some (hf i) ∧ FloatKind.f64.format.order (hf i) (hf i) = some .eq := by
  have := List.all_eq_true.1 half_all i (List.mem_range.2 (by omega))
  simpa using this
theorem half_run (i : Nat) (h : i ≤ 1024) (w : World) : (binOp .quo 29 (.float .f64 (floatOfInt .f64 i)) (.float .f64 4611686018427387904)).run Yba.prog w = .ok (.float .f64 (hf i)) w :=
  run_float_arith w .quo 29 .f64 _ _ _ (half_ok i h).1

/-! ### The states -/
def stB (i : Nat) : ByteArray := if i % 3 = 0 then ⟨#[82]⟩ else if i % 3 = 1 then ⟨#[83]⟩ else ⟨#[68]⟩
set_option maxHeartbeats 400000 in
theorem state_any (i : Nat) (hi : i ≤ 1024) (w : World) : Calls Yba.prog 5 #[.int .i64 i] w fun e w' => e = .returned (.string (stB i)) ∧ w' = w := by
  have h3 : i % 3 = 0 ∨ i % 3 = 1 ∨ i % 3 = 2 := by omega
  rcases h3 with h | h | h
  · have e : (i : Int) % 3 = 0 := by omega
    have hr : Hid (stB i = ⟨#[82]⟩) := by unfold Hid stB; rw [if_pos h]
    clear h
    go_enter Yba.func5, Yba.ntmps5
    go_wp2
    go_ret
    exact ⟨by rw [hr.out]; rfl, rfl⟩
  · have e : (i : Int) % 3 = 1 := by omega
    have hr : Hid (stB i = ⟨#[83]⟩) := by unfold Hid stB; rw [if_neg (by omega), if_pos h]
    clear h
    go_enter Yba.func5, Yba.ntmps5
    go_wp2
    go_ret
    exact ⟨by rw [hr.out]; rfl, rfl⟩
  · have e : (i : Int) % 3 = 2 := by omega
    have hr : Hid (stB i = ⟨#[68]⟩) := by unfold Hid stB; rw [if_neg (by omega), if_neg (by omega)]
    clear h
    go_enter Yba.func5, Yba.ntmps5
    go_wp2
    go_ret
    exact ⟨by rw [hr.out]; rfl, rfl⟩

end Go.Proofs.Ybulkbofk
