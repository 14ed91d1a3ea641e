/-
  The contract of resize on a fresh Orderer.
-/
import Derived.Test.YbulkbobqFmtPairs
import Derived.Lib.AppendZeros
import Derived.Deep.RegionWith
namespace Go.Proofs.YbulkbobqFmt
open Go.RowKit

theorem zeroCells_get (z : Array Value) (n i : Nat) (h : i < n * z.size) : (Builtin.zeroCells z n)[i]? = z[i % z.size]? := by
  have hz : 0 < z.size := by
    rcases Nat.eq_zero_or_pos z.size with e | e
    · rw [e] at h; simp at h
    · exact e
  have hlt := Nat.mod_lt i hz
  simp only [Builtin.zeroCells, Array.getElem?_map]
  rw [Array.getElem?_range, if_pos h]
  simp [hlt]

theorem zeroCells_two (z : Array Value) (n k i : Nat) (h : i < (Builtin.zeroCells z n ++ Builtin.zeroCells z k).size) : (Builtin.zeroCells z n ++ Builtin.zeroCells z k)[i]? = z[i % z.size]? := by
  simp only [Array.size_append, size_zeroCells] at h
  by_cases hi : i < n * z.size
  · rw [Array.getElem?_append_left (by rw [size_zeroCells]; exact hi), zeroCells_get z n i hi]
  · rw [Array.getElem?_append_right (by rw [size_zeroCells]; omega), size_zeroCells, zeroCells_get z k _ (by omega)]
    obtain ⟨d, rfl⟩ : ∃ d, i = n * z.size + d := ⟨i - n * z.size, by omega⟩
    rw [Nat.add_sub_cancel_left, Nat.mul_comm, Nat.mul_add_mod]

/-- Cells of the zero alone. -/
def Zeros (cur z : Array Value) (n : Nat) : Prop := n * z.size ≤ cur.size ∧ ∀ i, i < cur.size → cur[i]? = z[i % z.size]?

theorem grow_ok (base : Nat) (W : World) (n : Nat) (h0 : 0 < n) (h8 : n ≤ 8) (t e : TypeId) (z : Value) (size bytes : Nat) (ht : Ybaf.prog.underlying t = some (.slice e)) (hinfo : (Ybaf.prog.info? e).map (fun i => (i.zero, i.size, i.bytes)) = some (some z, size, bytes)) (hs : 0 < size) (hb : bytes ≤ 1000) (hne : e ≠ 70) :
    ∃ (cur : Array Value) (cap : Nat) (V : World), (∀ ty, (Builtin.append_ #[t, 3] ty #[.slice none 0 0, .int .i64 n]).run Ybaf.prog W = .ok (.slice (some ⟨W.heap.size, 0, none⟩) n cap) V) ∧ Fr base [] [] W V ∧ (LogOK base W → LogOK base V) ∧
      V.heap[W.heap.size]? = some (.cells cur e (0, 0)) ∧ Zeros cur z.cells n := by
  obtain ⟨i0, hi, hz, hz1, hz2⟩ := info_split hinfo
  refine ⟨Builtin.zeroCells z.cells n ++ Builtin.zeroCells z.cells (grownCap W n 0 e - n), grownCap W n 0 e, _, fun ty => Lib.run_append_nil_zeros W t 3 ty e i0 z .i64 .i64 ht Ybaf.underlying3 hi hz n h0 (by omega) (by omega) ?_, (Fr.refl _ _ _ _).drew.alloc _, fun hl => (hl.same rfl : LogOK base W.drew).alloc _ _ (fun e' => absurd e' hne), heap_alloc_new W.drew _, ?_, ?_⟩
  · rw [hz2]
    exact Nat.le_trans (Nat.mul_le_mul h8 hb) (by omega)
  · simp only [Array.size_append, size_zeroCells]; omega
  · intro i hi
    exact zeroCells_two _ _ _ _ hi

/-- A fresh Orderer's cells. -/
def ord0 (me : Nat) : List Value :=
  [.int .i64 me, .int .i64 0, .int .u64 0, .slice none 0 0, .int .u64 0, .slice none 0 0, .slice none 0 0, .slice none 0 0, .slice none 0 0, .slice none 0 0, .slice none 0 0, .slice none 0 0, .int .i64 0, .int .u64 0, .slice none 0 0, .bool false, .slice none 0 0,
   .slice none 0 0, .slice none 0 0, .slice none 0 0, .slice none 0 0, .slice none 0 0, .slice none 0 0, .slice none 0 0, .int .u64 0, .slice none 0 0, .bool false]

def et (f : Nat) : TypeId := if f = 3 then 52 else if f = 16 then 61 else 26
def zc (f : Nat) : Array Value := if f = 3 then #[.slice none 0 0] else if f = 16 then #[.slice none 0 0, .int .i64 0] else #[.int .u64 0]

/-- On the way: the fields of 'done' have their rows, those of 'free' hold whatever. -/
structure Rz (base O n me : Nat) (w0 w : World) (done free : List Nat) (xs : List Value) : Prop where
  len : xs.length = 27
  ob : w.heap[O]? = some (.cells xs.toArray 57 (0, 0))
  fr : Fr base [O] [] w0 w
  log : LogOK base w
  bO : base ≤ O
  old : ∀ i, i < 27 → i ∉ done → i ∉ free → xs[i]? = (ord0 me)[i]?
  row : ∀ f, f ∈ done → ∃ b c cur, xs[f]? = some (.slice (some ⟨b, 0, none⟩) n c) ∧ O < b ∧ w.heap[b]? = some (.cells cur (et f) (0, 0)) ∧ Zeros cur (zc f) n
  apart : ∀ f g, f ∈ done → g ∈ done → f ≠ g → ∀ b c c', xs[f]? = some (.slice (some ⟨b, 0, none⟩) n c) → xs[g]? ≠ some (.slice (some ⟨b, 0, none⟩) n c')

section
variable {base O n me : Nat} {w0 w V : World} {done free : List Nat} {xs : List Value}
theorem Rz.get (h : Rz base O n me w0 w done free xs) (f : Nat) (h1 : f < 27) (h2 : f ∉ done) (h3 : f ∉ free) : w.cell? ⟨O, f, none⟩ = (ord0 me)[f]? := by
  rw [← h.old f h1 h2 h3]
  simp [World.cell?, h.ob]
theorem Rz.free' (h : Rz base O n me w0 w done free xs) (hf : Fr base [] [] w V) (f : Nat) : V.frozen? ⟨O, f, none⟩ = false := by
  have := hf.same h.ob (by simp) (by simp)
  simp [World.frozen?, this]
theorem Rz.get' (h : Rz base O n me w0 w done free xs) (hf : Fr base [] [] w V) (f : Nat) (h1 : f < 27) (h2 : f ∉ done) (h3 : f ∉ free) : V.cell? ⟨O, f, none⟩ = (ord0 me)[f]? := by
  rw [← h.get f h1 h2 h3]
  exact World.cell?_of_block (a := ⟨O, f, none⟩) ((hf.same h.ob (by simp) (by simp)).trans h.ob.symm)
/-- A store of whatever. -/
theorem Rz.loose (h : Rz base O n me w0 w done free xs) (hf : Fr base [] [] w V) (hl : LogOK base w → LogOK base V) (f : Nat) (h2 : f ∉ done) (v : Value) : Rz base O n me w0 (V.setCell ⟨O, f, none⟩ v) done (f :: free) (xs.set f v) := by
  have hV := hf.same h.ob (by simp) (by simp)
  have hO : (V.setCell ⟨O, f, none⟩ v).heap[O]? = some (.cells (xs.set f v).toArray 57 (0, 0)) := by
    rw [setCell_eq_setRow V O f _ 57 (0, 0) _ hV, setRow_heap V O _ _ _ _ hV]
    simp
  refine ⟨by simpa using h.len, hO, (h.fr.trans (hf.wider (by simp) (by simp))).setCell hV _ h.bO (.inl (by simp)), (hl h.log).setCell hV _ (fun e => by simp at e), h.bO, fun i h1 h3 h4 => ?_, fun g hg => ?_, fun f' g hf' hg hne b c c' => ?_⟩
  · simp only [List.mem_cons, not_or] at h4
    rw [List.getElem?_set_ne (Ne.symm h4.1)]
    exact h.old i h1 h3 h4.2
  · obtain ⟨b, c, cur, e1, e2, e3, e4⟩ := h.row g hg
    have hne : f ≠ g := fun e => h2 (e ▸ hg)
    exact ⟨b, c, cur, by rw [List.getElem?_set_ne hne]; exact e1, e2, (Below.heap_setCell _ _ _ _ (show b ≠ O by omega)).trans (hf.same e3 (by simp) (by simp)), e4⟩
  · rw [List.getElem?_set_ne (show f ≠ f' from fun e => h2 (e ▸ hf')), List.getElem?_set_ne (show f ≠ g from fun e => h2 (e ▸ hg))]
    exact h.apart f' g hf' hg hne b c c'
/-- A store of a new row. -/
theorem Rz.track (h : Rz base O n me w0 w done free xs) (hf : Fr base [] [] w V) (hl : LogOK base w → LogOK base V) (f : Nat) (h1 : f < 27) (h2 : f ∉ done) (c : Nat) (cur : Array Value) (hc : V.heap[w.heap.size]? = some (.cells cur (et f) (0, 0))) (hz : Zeros cur (zc f) n) :
    Rz base O n me w0 (V.setCell ⟨O, f, none⟩ (.slice (some ⟨w.heap.size, 0, none⟩) n c)) (f :: done) free (xs.set f (.slice (some ⟨w.heap.size, 0, none⟩) n c)) := by
  obtain ⟨a1, a2, a3, a4, a5, a6, a7, a8⟩ := h.loose hf hl f h2 (.slice (some ⟨w.heap.size, 0, none⟩) n c)
  have hOl : O < w.heap.size := (Array.getElem?_eq_some_iff.1 h.ob).1
  have hfx : (xs.set f (.slice (some ⟨w.heap.size, 0, none⟩) n c))[f]? = some (.slice (some ⟨w.heap.size, 0, none⟩) n c) := by
    rw [List.getElem?_set_self (by rw [h.len]; exact h1)]
  have hold : ∀ g, g ∈ done → ∀ b c', (xs.set f (.slice (some ⟨w.heap.size, 0, none⟩) n c))[g]? = some (.slice (some ⟨b, 0, none⟩) n c') → b < w.heap.size := by
    intro g hg b c' hb
    rw [List.getElem?_set_ne (show f ≠ g from fun e => h2 (e ▸ hg))] at hb
    obtain ⟨b2, c2, cur2, e1, e2, e3, e4⟩ := h.row g hg
    rw [e1] at hb
    simp only [Option.some.injEq, Value.slice.injEq, Addr.mk.injEq, and_true, true_and] at hb
    have := (Array.getElem?_eq_some_iff.1 e3).1
    omega
  refine ⟨a1, a2, a3, a4, a5, fun i h1 h3 h4 => ?_, fun g hg => ?_, fun f' g hf' hg hne b c1 c2 hb1 hb2 => ?_⟩
  · simp only [List.mem_cons, not_or] at h3
    exact a6 i h1 h3.2 (by simp only [List.mem_cons, not_or]; exact ⟨h3.1, h4⟩)
  · simp only [List.mem_cons] at hg
    rcases hg with rfl | hg
    · exact ⟨_, _, cur, hfx, hOl, (Below.heap_setCell _ _ _ _ (show w.heap.size ≠ O by omega)).trans hc, hz⟩
    · exact a7 g hg
  · simp only [List.mem_cons] at hf' hg
    rcases hf' with rfl | hf'
    · rcases hg with rfl | hg
      · exact hne rfl
      · rw [hfx] at hb1
        simp only [Option.some.injEq, Value.slice.injEq, Addr.mk.injEq, and_true, true_and] at hb1
        have := hold g hg b c2 hb2
        omega
    · rcases hg with rfl | hg
      · rw [hfx] at hb2
        simp only [Option.some.injEq, Value.slice.injEq, Addr.mk.injEq, and_true, true_and] at hb2
        have := hold f' hf' b c1 hb1
        omega
      · exact a8 f' g hf' hg hne b c1 c2 hb1 hb2
end

theorem Rz.pairs {base O n me : Nat} {w0 W V : World} {done free : List Nat} {xs : List Value} {e : Ending} (h : Rz base O n me w0 W done free xs) (f : Nat) (h1 : f < 27) (h2 : f ∉ done) (h3 : f ∉ free) (hp : PairsPost W.drew e V) :
    ∃ c, e = .returned (.slice (some ⟨W.heap.size, 0, none⟩) c c) ∧ V.cell? ⟨O, f, none⟩ = (ord0 me)[f]? ∧ V.frozen? ⟨O, f, none⟩ = false ∧ ∃ xs', Rz base O n me w0 (V.setCell ⟨O, f, none⟩ (.slice (some ⟨W.heap.size, 0, none⟩) c c)) done (f :: free) xs' := by
  obtain ⟨c, cur, rfl, rfl⟩ := hp
  have hF : Fr base [] [] W (W.drew.alloc (.cells cur 26)) := (Fr.refl _ _ _ _).drew.alloc _
  exact ⟨c, rfl, h.get' hF f h1 h2 h3, h.free' hF f, _, h.loose hF (fun hl => (hl.same rfl : LogOK base W.drew).alloc _ _ (fun e => by simp at e)) f h2 _⟩

theorem Ybaf.info52 : (Ybaf.prog.info? 52).map (fun i => (i.zero, i.size, i.bytes)) = some (some (.slice none 0 0), 1, 24) := by kernel_rfl
theorem Ybaf.info29 : (Ybaf.prog.info? 29).map (fun i => (i.zero, i.size, i.bytes)) = some (some (.slice none 0 0), 1, 24) := by kernel_rfl
theorem Ybaf.info59 : (Ybaf.prog.info? 59).map (fun i => (i.zero, i.size, i.bytes)) = some (some (.slice none 0 0), 1, 24) := by kernel_rfl
theorem Ybaf.info61 : (Ybaf.prog.info? 61).map (fun i => (i.zero, i.size, i.bytes)) = some (some (.agg #[.slice none 0 0, .int .i64 0]), 2, 32) := by kernel_rfl
theorem Ybaf.info3 : (Ybaf.prog.info? 3).map (fun i => (i.zero, i.size, i.bytes)) = some (some (.int .i64 0), 1, 8) := by kernel_rfl

/-- What resize says. -/
def ResizePost (base O n me : Nat) (w : World) (e : Ending) (w' : World) : Prop :=
  e = .returned (.tuple #[]) ∧ ∃ xs, Rz base O n me w w' [25, 16, 11, 8, 5, 3] [1, 23, 22, 6, 21, 20, 19, 18, 17, 10, 9, 7] xs ∧ xs[1]? = some (.int .i64 n)

set_option maxRecDepth 100000 in
set_option maxHeartbeats 4000000 in
theorem resize_any (base O n me : Nat) (h0 : 0 < n) (h8 : n ≤ 8) (w0 : World) (h : Rz base O n me w0 w0 [] [] (ord0 me)) : Calls Ybaf.prog 16 #[.pointer (some ⟨O, 0, none⟩), .int .i64 n] w0 (ResizePost base O n me w0) := by
  have g1 : w0.cell? ⟨O, 1, none⟩ = some (.int .i64 0) := h.get 1 (by omega) (by simp) (by simp)
  go_enter Ybaf.func16, Ybaf.ntmps16
  go_upto_region 1 with fail
  clear g1
  have R0 : Hid (Rz base O n me w0 w0 [] [] (ord0 me)) := h
  obtain ⟨W0, hW0⟩ : ∃ W0, W0 = w0 := ⟨_, rfl⟩
  obtain ⟨xs0, hxs0⟩ : ∃ xs0, xs0 = ord0 me := ⟨_, rfl⟩
  rw [← hxs0] at R0
  have R1 : Hid (Rz base O n me w0 W0 [] [] xs0) := by rw [hW0]; exact R0
  rw [← hW0]
  clear R0 h hW0 hxs0
  have g : W0.cell? ⟨O, 3, none⟩ = some (.slice none 0 0) := R1.out.get 3 (by omega) (by simp) (by simp)
  obtain ⟨cur, cap, V, hrun, hF, hL, hcur, hZ⟩ := grow_ok base W0 n h0 h8 49 52 (.slice none 0 0) 1 24 Ybaf.underlying49 Ybaf.info52 (by omega) (by omega) (by simp)
  have fz := R1.out.free' hF 3
  have gV : V.cell? ⟨O, 3, none⟩ = some (.slice none 0 0) := R1.out.get' hF 3 (by omega) (by simp) (by simp)
  have R' : Hid (Rz base O n me w0 (V.setCell ⟨O, 3, none⟩ (.slice (some ⟨W0.heap.size, 0, none⟩) n cap)) [3] [] (xs0.set 3 (.slice (some ⟨W0.heap.size, 0, none⟩) n cap))) := R1.out.track hF hL 3 (by omega) (by simp) cap cur hcur hZ
  clear hF hL hcur hZ
  go_upto_region 2 with (at_builtin; refine Lib.wpList_append_run W0 rfl (.tmp 15) (.tmp 16) 49 3 rfl (.slice none 0 0) (.int .i64 n) rfl rfl _ _ (hrun _) ?_)
  generalize V.setCell ⟨O, 3, none⟩ (.slice (some ⟨W0.heap.size, 0, none⟩) n cap) = W1 at R' ⊢
  obtain ⟨xs1, hxs⟩ : ∃ xs', xs' = xs0.set 3 (.slice (some ⟨W0.heap.size, 0, none⟩) n cap) := ⟨_, rfl⟩
  rw [← hxs] at R'
  have R2 : Hid (Rz base O n me w0 W1 [3] [] xs1) := R'
  clear R' hxs g gV hrun fz R1
  have g : W1.cell? ⟨O, 5, none⟩ = some (.slice none 0 0) := R2.out.get 5 (by omega) (by simp) (by simp)
  obtain ⟨cur, cap, V, hrun, hF, hL, hcur, hZ⟩ := grow_ok base W1 n h0 h8 50 26 (.int .u64 0) 1 8 Ybaf.underlying50 Ybaf.info26 (by omega) (by omega) (by simp)
  have fz := R2.out.free' hF 5
  have gV : V.cell? ⟨O, 5, none⟩ = some (.slice none 0 0) := R2.out.get' hF 5 (by omega) (by simp) (by simp)
  have R' : Hid (Rz base O n me w0 (V.setCell ⟨O, 5, none⟩ (.slice (some ⟨W1.heap.size, 0, none⟩) n cap)) [5, 3] [] (xs1.set 5 (.slice (some ⟨W1.heap.size, 0, none⟩) n cap))) := R2.out.track hF hL 5 (by omega) (by simp) cap cur hcur hZ
  clear hF hL hcur hZ
  go_upto_region 3 with (at_builtin; refine Lib.wpList_append_run W1 rfl (.tmp 24) (.tmp 25) 50 3 rfl (.slice none 0 0) (.int .i64 n) rfl rfl _ _ (hrun _) ?_)
  generalize V.setCell ⟨O, 5, none⟩ (.slice (some ⟨W1.heap.size, 0, none⟩) n cap) = W2 at R' ⊢
  obtain ⟨xs2, hxs⟩ : ∃ xs', xs' = xs1.set 5 (.slice (some ⟨W1.heap.size, 0, none⟩) n cap) := ⟨_, rfl⟩
  rw [← hxs] at R'
  have R3 : Hid (Rz base O n me w0 W2 [5, 3] [] xs2) := R'
  clear R' hxs g gV hrun fz R2
  have g : W2.cell? ⟨O, 7, none⟩ = some (.slice none 0 0) := R3.out.get 7 (by omega) (by simp) (by simp)
  obtain ⟨cur, cap, V, hrun, hF, hL, hcur, hZ⟩ := grow_ok base W2 n h0 h8 51 29 (.slice none 0 0) 1 24 Ybaf.underlying51 Ybaf.info29 (by omega) (by omega) (by simp)
  have fz := R3.out.free' hF 7
  have gV : V.cell? ⟨O, 7, none⟩ = some (.slice none 0 0) := R3.out.get' hF 7 (by omega) (by simp) (by simp)
  have R' : Hid (Rz base O n me w0 (V.setCell ⟨O, 7, none⟩ (.slice (some ⟨W2.heap.size, 0, none⟩) n cap)) [5, 3] [7] (xs2.set 7 (.slice (some ⟨W2.heap.size, 0, none⟩) n cap))) := R3.out.loose hF hL 7 (by simp) _
  clear hF hL hcur hZ
  go_upto_region 4 with (at_builtin; refine Lib.wpList_append_run W2 rfl (.tmp 33) (.tmp 34) 51 3 rfl (.slice none 0 0) (.int .i64 n) rfl rfl _ _ (hrun _) ?_)
  generalize V.setCell ⟨O, 7, none⟩ (.slice (some ⟨W2.heap.size, 0, none⟩) n cap) = W3 at R' ⊢
  obtain ⟨xs3, hxs⟩ : ∃ xs', xs' = xs2.set 7 (.slice (some ⟨W2.heap.size, 0, none⟩) n cap) := ⟨_, rfl⟩
  rw [← hxs] at R'
  have R4 : Hid (Rz base O n me w0 W3 [5, 3] [7] xs3) := R'
  clear R' hxs g gV hrun fz R3
  have g : W3.cell? ⟨O, 8, none⟩ = some (.slice none 0 0) := R4.out.get 8 (by omega) (by simp) (by simp)
  obtain ⟨cur, cap, V, hrun, hF, hL, hcur, hZ⟩ := grow_ok base W3 n h0 h8 50 26 (.int .u64 0) 1 8 Ybaf.underlying50 Ybaf.info26 (by omega) (by omega) (by simp)
  have fz := R4.out.free' hF 8
  have gV : V.cell? ⟨O, 8, none⟩ = some (.slice none 0 0) := R4.out.get' hF 8 (by omega) (by simp) (by simp)
  have R' : Hid (Rz base O n me w0 (V.setCell ⟨O, 8, none⟩ (.slice (some ⟨W3.heap.size, 0, none⟩) n cap)) [8, 5, 3] [7] (xs3.set 8 (.slice (some ⟨W3.heap.size, 0, none⟩) n cap))) := R4.out.track hF hL 8 (by omega) (by simp) cap cur hcur hZ
  clear hF hL hcur hZ
  go_upto_region 5 with (at_builtin; refine Lib.wpList_append_run W3 rfl (.tmp 42) (.tmp 43) 50 3 rfl (.slice none 0 0) (.int .i64 n) rfl rfl _ _ (hrun _) ?_)
  generalize V.setCell ⟨O, 8, none⟩ (.slice (some ⟨W3.heap.size, 0, none⟩) n cap) = W4 at R' ⊢
  obtain ⟨xs4, hxs⟩ : ∃ xs', xs' = xs3.set 8 (.slice (some ⟨W3.heap.size, 0, none⟩) n cap) := ⟨_, rfl⟩
  rw [← hxs] at R'
  have R5 : Hid (Rz base O n me w0 W4 [8, 5, 3] [7] xs4) := R'
  clear R' hxs g gV hrun fz R4
  have g : W4.cell? ⟨O, 9, none⟩ = some (.slice none 0 0) := R5.out.get 9 (by omega) (by simp) (by simp)
  obtain ⟨cur, cap, V, hrun, hF, hL, hcur, hZ⟩ := grow_ok base W4 n h0 h8 50 26 (.int .u64 0) 1 8 Ybaf.underlying50 Ybaf.info26 (by omega) (by omega) (by simp)
  have fz := R5.out.free' hF 9
  have gV : V.cell? ⟨O, 9, none⟩ = some (.slice none 0 0) := R5.out.get' hF 9 (by omega) (by simp) (by simp)
  have R' : Hid (Rz base O n me w0 (V.setCell ⟨O, 9, none⟩ (.slice (some ⟨W4.heap.size, 0, none⟩) n cap)) [8, 5, 3] [9, 7] (xs4.set 9 (.slice (some ⟨W4.heap.size, 0, none⟩) n cap))) := R5.out.loose hF hL 9 (by simp) _
  clear hF hL hcur hZ
  go_upto_region 6 with (at_builtin; refine Lib.wpList_append_run W4 rfl (.tmp 51) (.tmp 52) 50 3 rfl (.slice none 0 0) (.int .i64 n) rfl rfl _ _ (hrun _) ?_)
  generalize V.setCell ⟨O, 9, none⟩ (.slice (some ⟨W4.heap.size, 0, none⟩) n cap) = W5 at R' ⊢
  obtain ⟨xs5, hxs⟩ : ∃ xs', xs' = xs4.set 9 (.slice (some ⟨W4.heap.size, 0, none⟩) n cap) := ⟨_, rfl⟩
  rw [← hxs] at R'
  have R6 : Hid (Rz base O n me w0 W5 [8, 5, 3] [9, 7] xs5) := R'
  clear R' hxs g gV hrun fz R5
  have g : W5.cell? ⟨O, 10, none⟩ = some (.slice none 0 0) := R6.out.get 10 (by omega) (by simp) (by simp)
  obtain ⟨cur, cap, V, hrun, hF, hL, hcur, hZ⟩ := grow_ok base W5 n h0 h8 50 26 (.int .u64 0) 1 8 Ybaf.underlying50 Ybaf.info26 (by omega) (by omega) (by simp)
  have fz := R6.out.free' hF 10
  have gV : V.cell? ⟨O, 10, none⟩ = some (.slice none 0 0) := R6.out.get' hF 10 (by omega) (by simp) (by simp)
  have R' : Hid (Rz base O n me w0 (V.setCell ⟨O, 10, none⟩ (.slice (some ⟨W5.heap.size, 0, none⟩) n cap)) [8, 5, 3] [10, 9, 7] (xs5.set 10 (.slice (some ⟨W5.heap.size, 0, none⟩) n cap))) := R6.out.loose hF hL 10 (by simp) _
  clear hF hL hcur hZ
  go_upto_region 7 with (at_builtin; refine Lib.wpList_append_run W5 rfl (.tmp 60) (.tmp 61) 50 3 rfl (.slice none 0 0) (.int .i64 n) rfl rfl _ _ (hrun _) ?_)
  generalize V.setCell ⟨O, 10, none⟩ (.slice (some ⟨W5.heap.size, 0, none⟩) n cap) = W6 at R' ⊢
  obtain ⟨xs6, hxs⟩ : ∃ xs', xs' = xs5.set 10 (.slice (some ⟨W5.heap.size, 0, none⟩) n cap) := ⟨_, rfl⟩
  rw [← hxs] at R'
  have R7 : Hid (Rz base O n me w0 W6 [8, 5, 3] [10, 9, 7] xs6) := R'
  clear R' hxs g gV hrun fz R6
  have g : W6.cell? ⟨O, 11, none⟩ = some (.slice none 0 0) := R7.out.get 11 (by omega) (by simp) (by simp)
  obtain ⟨cur, cap, V, hrun, hF, hL, hcur, hZ⟩ := grow_ok base W6 n h0 h8 50 26 (.int .u64 0) 1 8 Ybaf.underlying50 Ybaf.info26 (by omega) (by omega) (by simp)
  have fz := R7.out.free' hF 11
  have gV : V.cell? ⟨O, 11, none⟩ = some (.slice none 0 0) := R7.out.get' hF 11 (by omega) (by simp) (by simp)
  have R' : Hid (Rz base O n me w0 (V.setCell ⟨O, 11, none⟩ (.slice (some ⟨W6.heap.size, 0, none⟩) n cap)) [11, 8, 5, 3] [10, 9, 7] (xs6.set 11 (.slice (some ⟨W6.heap.size, 0, none⟩) n cap))) := R7.out.track hF hL 11 (by omega) (by simp) cap cur hcur hZ
  clear hF hL hcur hZ
  go_upto_region 8 with (at_builtin; refine Lib.wpList_append_run W6 rfl (.tmp 69) (.tmp 70) 50 3 rfl (.slice none 0 0) (.int .i64 n) rfl rfl _ _ (hrun _) ?_)
  generalize V.setCell ⟨O, 11, none⟩ (.slice (some ⟨W6.heap.size, 0, none⟩) n cap) = W7 at R' ⊢
  obtain ⟨xs7, hxs⟩ : ∃ xs', xs' = xs6.set 11 (.slice (some ⟨W6.heap.size, 0, none⟩) n cap) := ⟨_, rfl⟩
  rw [← hxs] at R'
  have R8 : Hid (Rz base O n me w0 W7 [11, 8, 5, 3] [10, 9, 7] xs7) := R'
  clear R' hxs g gV hrun fz R7
  have g : W7.cell? ⟨O, 16, none⟩ = some (.slice none 0 0) := R8.out.get 16 (by omega) (by simp) (by simp)
  obtain ⟨cur, cap, V, hrun, hF, hL, hcur, hZ⟩ := grow_ok base W7 n h0 h8 53 61 (.agg #[.slice none 0 0, .int .i64 0]) 2 32 Ybaf.underlying53 Ybaf.info61 (by omega) (by omega) (by simp)
  have fz := R8.out.free' hF 16
  have gV : V.cell? ⟨O, 16, none⟩ = some (.slice none 0 0) := R8.out.get' hF 16 (by omega) (by simp) (by simp)
  have R' : Hid (Rz base O n me w0 (V.setCell ⟨O, 16, none⟩ (.slice (some ⟨W7.heap.size, 0, none⟩) n cap)) [16, 11, 8, 5, 3] [10, 9, 7] (xs7.set 16 (.slice (some ⟨W7.heap.size, 0, none⟩) n cap))) := R8.out.track hF hL 16 (by omega) (by simp) cap cur hcur hZ
  clear hF hL hcur hZ
  go_upto_region 9 with (at_builtin; refine Lib.wpList_append_run W7 rfl (.tmp 78) (.tmp 79) 53 3 rfl (.slice none 0 0) (.int .i64 n) rfl rfl _ _ (hrun _) ?_)
  generalize V.setCell ⟨O, 16, none⟩ (.slice (some ⟨W7.heap.size, 0, none⟩) n cap) = W8 at R' ⊢
  obtain ⟨xs8, hxs⟩ : ∃ xs', xs' = xs7.set 16 (.slice (some ⟨W7.heap.size, 0, none⟩) n cap) := ⟨_, rfl⟩
  rw [← hxs] at R'
  have R9 : Hid (Rz base O n me w0 W8 [16, 11, 8, 5, 3] [10, 9, 7] xs8) := R'
  clear R' hxs g gV hrun fz R8
  have g : W8.cell? ⟨O, 17, none⟩ = some (.slice none 0 0) := R9.out.get 17 (by omega) (by simp) (by simp)
  obtain ⟨cur, cap, V, hrun, hF, hL, hcur, hZ⟩ := grow_ok base W8 n h0 h8 54 59 (.slice none 0 0) 1 24 Ybaf.underlying54 Ybaf.info59 (by omega) (by omega) (by simp)
  have fz := R9.out.free' hF 17
  have gV : V.cell? ⟨O, 17, none⟩ = some (.slice none 0 0) := R9.out.get' hF 17 (by omega) (by simp) (by simp)
  have R' : Hid (Rz base O n me w0 (V.setCell ⟨O, 17, none⟩ (.slice (some ⟨W8.heap.size, 0, none⟩) n cap)) [16, 11, 8, 5, 3] [17, 10, 9, 7] (xs8.set 17 (.slice (some ⟨W8.heap.size, 0, none⟩) n cap))) := R9.out.loose hF hL 17 (by simp) _
  clear hF hL hcur hZ
  go_upto_region 10 with (at_builtin; refine Lib.wpList_append_run W8 rfl (.tmp 87) (.tmp 88) 54 3 rfl (.slice none 0 0) (.int .i64 n) rfl rfl _ _ (hrun _) ?_)
  generalize V.setCell ⟨O, 17, none⟩ (.slice (some ⟨W8.heap.size, 0, none⟩) n cap) = W9 at R' ⊢
  obtain ⟨xs9, hxs⟩ : ∃ xs', xs' = xs8.set 17 (.slice (some ⟨W8.heap.size, 0, none⟩) n cap) := ⟨_, rfl⟩
  rw [← hxs] at R'
  have R10 : Hid (Rz base O n me w0 W9 [16, 11, 8, 5, 3] [17, 10, 9, 7] xs9) := R'
  clear R' hxs g gV hrun fz R9
  have g : W9.cell? ⟨O, 18, none⟩ = some (.slice none 0 0) := R10.out.get 18 (by omega) (by simp) (by simp)
  obtain ⟨cur, cap, V, hrun, hF, hL, hcur, hZ⟩ := grow_ok base W9 n h0 h8 53 61 (.agg #[.slice none 0 0, .int .i64 0]) 2 32 Ybaf.underlying53 Ybaf.info61 (by omega) (by omega) (by simp)
  have fz := R10.out.free' hF 18
  have gV : V.cell? ⟨O, 18, none⟩ = some (.slice none 0 0) := R10.out.get' hF 18 (by omega) (by simp) (by simp)
  have R' : Hid (Rz base O n me w0 (V.setCell ⟨O, 18, none⟩ (.slice (some ⟨W9.heap.size, 0, none⟩) n cap)) [16, 11, 8, 5, 3] [18, 17, 10, 9, 7] (xs9.set 18 (.slice (some ⟨W9.heap.size, 0, none⟩) n cap))) := R10.out.loose hF hL 18 (by simp) _
  clear hF hL hcur hZ
  go_upto_region 11 with (at_builtin; refine Lib.wpList_append_run W9 rfl (.tmp 96) (.tmp 97) 53 3 rfl (.slice none 0 0) (.int .i64 n) rfl rfl _ _ (hrun _) ?_)
  generalize V.setCell ⟨O, 18, none⟩ (.slice (some ⟨W9.heap.size, 0, none⟩) n cap) = W10 at R' ⊢
  obtain ⟨xs10, hxs⟩ : ∃ xs', xs' = xs9.set 18 (.slice (some ⟨W9.heap.size, 0, none⟩) n cap) := ⟨_, rfl⟩
  rw [← hxs] at R'
  have R11 : Hid (Rz base O n me w0 W10 [16, 11, 8, 5, 3] [18, 17, 10, 9, 7] xs10) := R'
  clear R' hxs g gV hrun fz R10
  have g : W10.cell? ⟨O, 19, none⟩ = some (.slice none 0 0) := R11.out.get 19 (by omega) (by simp) (by simp)
  obtain ⟨cur, cap, V, hrun, hF, hL, hcur, hZ⟩ := grow_ok base W10 n h0 h8 55 3 (.int .i64 0) 1 8 Ybaf.underlying55 Ybaf.info3 (by omega) (by omega) (by simp)
  have fz := R11.out.free' hF 19
  have gV : V.cell? ⟨O, 19, none⟩ = some (.slice none 0 0) := R11.out.get' hF 19 (by omega) (by simp) (by simp)
  have R' : Hid (Rz base O n me w0 (V.setCell ⟨O, 19, none⟩ (.slice (some ⟨W10.heap.size, 0, none⟩) n cap)) [16, 11, 8, 5, 3] [19, 18, 17, 10, 9, 7] (xs10.set 19 (.slice (some ⟨W10.heap.size, 0, none⟩) n cap))) := R11.out.loose hF hL 19 (by simp) _
  clear hF hL hcur hZ
  go_upto_region 12 with (at_builtin; refine Lib.wpList_append_run W10 rfl (.tmp 105) (.tmp 106) 55 3 rfl (.slice none 0 0) (.int .i64 n) rfl rfl _ _ (hrun _) ?_)
  generalize V.setCell ⟨O, 19, none⟩ (.slice (some ⟨W10.heap.size, 0, none⟩) n cap) = W11 at R' ⊢
  obtain ⟨xs11, hxs⟩ : ∃ xs', xs' = xs10.set 19 (.slice (some ⟨W10.heap.size, 0, none⟩) n cap) := ⟨_, rfl⟩
  rw [← hxs] at R'
  have R12 : Hid (Rz base O n me w0 W11 [16, 11, 8, 5, 3] [19, 18, 17, 10, 9, 7] xs11) := R'
  clear R' hxs g gV hrun fz R11
  have g : W11.cell? ⟨O, 20, none⟩ = some (.slice none 0 0) := R12.out.get 20 (by omega) (by simp) (by simp)
  obtain ⟨cur, cap, V, hrun, hF, hL, hcur, hZ⟩ := grow_ok base W11 n h0 h8 55 3 (.int .i64 0) 1 8 Ybaf.underlying55 Ybaf.info3 (by omega) (by omega) (by simp)
  have fz := R12.out.free' hF 20
  have gV : V.cell? ⟨O, 20, none⟩ = some (.slice none 0 0) := R12.out.get' hF 20 (by omega) (by simp) (by simp)
  have R' : Hid (Rz base O n me w0 (V.setCell ⟨O, 20, none⟩ (.slice (some ⟨W11.heap.size, 0, none⟩) n cap)) [16, 11, 8, 5, 3] [20, 19, 18, 17, 10, 9, 7] (xs11.set 20 (.slice (some ⟨W11.heap.size, 0, none⟩) n cap))) := R12.out.loose hF hL 20 (by simp) _
  clear hF hL hcur hZ
  go_upto_region 13 with (at_builtin; refine Lib.wpList_append_run W11 rfl (.tmp 114) (.tmp 115) 55 3 rfl (.slice none 0 0) (.int .i64 n) rfl rfl _ _ (hrun _) ?_)
  generalize V.setCell ⟨O, 20, none⟩ (.slice (some ⟨W11.heap.size, 0, none⟩) n cap) = W12 at R' ⊢
  obtain ⟨xs12, hxs⟩ : ∃ xs', xs' = xs11.set 20 (.slice (some ⟨W11.heap.size, 0, none⟩) n cap) := ⟨_, rfl⟩
  rw [← hxs] at R'
  have R13 : Hid (Rz base O n me w0 W12 [16, 11, 8, 5, 3] [20, 19, 18, 17, 10, 9, 7] xs12) := R'
  clear R' hxs g gV hrun fz R12
  have g : W12.cell? ⟨O, 21, none⟩ = some (.slice none 0 0) := R13.out.get 21 (by omega) (by simp) (by simp)
  obtain ⟨cur, cap, V, hrun, hF, hL, hcur, hZ⟩ := grow_ok base W12 n h0 h8 50 26 (.int .u64 0) 1 8 Ybaf.underlying50 Ybaf.info26 (by omega) (by omega) (by simp)
  have fz := R13.out.free' hF 21
  have gV : V.cell? ⟨O, 21, none⟩ = some (.slice none 0 0) := R13.out.get' hF 21 (by omega) (by simp) (by simp)
  have R' : Hid (Rz base O n me w0 (V.setCell ⟨O, 21, none⟩ (.slice (some ⟨W12.heap.size, 0, none⟩) n cap)) [16, 11, 8, 5, 3] [21, 20, 19, 18, 17, 10, 9, 7] (xs12.set 21 (.slice (some ⟨W12.heap.size, 0, none⟩) n cap))) := R13.out.loose hF hL 21 (by simp) _
  clear hF hL hcur hZ
  go_upto_region 14 with (at_builtin; refine Lib.wpList_append_run W12 rfl (.tmp 123) (.tmp 124) 50 3 rfl (.slice none 0 0) (.int .i64 n) rfl rfl _ _ (hrun _) ?_)
  generalize V.setCell ⟨O, 21, none⟩ (.slice (some ⟨W12.heap.size, 0, none⟩) n cap) = W13 at R' ⊢
  obtain ⟨xs13, hxs⟩ : ∃ xs', xs' = xs12.set 21 (.slice (some ⟨W12.heap.size, 0, none⟩) n cap) := ⟨_, rfl⟩
  rw [← hxs] at R'
  have R14 : Hid (Rz base O n me w0 W13 [16, 11, 8, 5, 3] [21, 20, 19, 18, 17, 10, 9, 7] xs13) := R'
  clear R' hxs g gV hrun fz R13
  have g : W13.cell? ⟨O, 25, none⟩ = some (.slice none 0 0) := R14.out.get 25 (by omega) (by simp) (by simp)
  obtain ⟨cur, cap, V, hrun, hF, hL, hcur, hZ⟩ := grow_ok base W13 n h0 h8 50 26 (.int .u64 0) 1 8 Ybaf.underlying50 Ybaf.info26 (by omega) (by omega) (by simp)
  have fz := R14.out.free' hF 25
  have gV : V.cell? ⟨O, 25, none⟩ = some (.slice none 0 0) := R14.out.get' hF 25 (by omega) (by simp) (by simp)
  have R' : Hid (Rz base O n me w0 (V.setCell ⟨O, 25, none⟩ (.slice (some ⟨W13.heap.size, 0, none⟩) n cap)) [25, 16, 11, 8, 5, 3] [21, 20, 19, 18, 17, 10, 9, 7] (xs13.set 25 (.slice (some ⟨W13.heap.size, 0, none⟩) n cap))) := R14.out.track hF hL 25 (by omega) (by simp) cap cur hcur hZ
  clear hF hL hcur hZ
  go_upto_region 15 with (at_builtin; refine Lib.wpList_append_run W13 rfl (.tmp 132) (.tmp 133) 50 3 rfl (.slice none 0 0) (.int .i64 n) rfl rfl _ _ (hrun _) ?_)
  generalize V.setCell ⟨O, 25, none⟩ (.slice (some ⟨W13.heap.size, 0, none⟩) n cap) = W14 at R' ⊢
  obtain ⟨xs14, hxs⟩ : ∃ xs', xs' = xs13.set 25 (.slice (some ⟨W13.heap.size, 0, none⟩) n cap) := ⟨_, rfl⟩
  rw [← hxs] at R'
  have R15 : Hid (Rz base O n me w0 W14 [25, 16, 11, 8, 5, 3] [21, 20, 19, 18, 17, 10, 9, 7] xs14) := R'
  clear R' hxs g gV hrun fz R14
  go_cut [] from 137 to 149 (fun wd => ∃ xs', Rz base O n me w0 wd [25, 16, 11, 8, 5, 3] [6, 21, 20, 19, 18, 17, 10, 9, 7] xs')
  case first =>
    have g : W14.cell? ⟨O, 6, none⟩ = some (.slice none 0 0) := R15.out.get 6 (by omega) (by simp) (by simp)
    have g1 : W14.cell? ⟨O, 1, none⟩ = some (.int .i64 0) := R15.out.get 1 (by omega) (by simp) (by simp)
    go_region_with (go_at_call 22; refine (pairs_any n h8 _ _).mono ?_; intro e V hp; obtain ⟨c, rfl, gV, fz, hR'⟩ := R15.out.pairs 6 (by omega) (by simp) (by simp) hp; replace gV : V.cell? ⟨O, 6, none⟩ = some (.slice none 0 0) := gV; clear hp)
    all_goals
      go_wp2
      go_meet
      exact hR'
  case rest =>
  obtain ⟨xs15, hcut⟩ := hcut
  obtain ⟨W15, hWk⟩ : ∃ W15, W15 = wc := ⟨_, rfl⟩
  rw [← hWk] at hcut ⊢
  clear hWk
  have R16 : Hid (Rz base O n me w0 W15 [25, 16, 11, 8, 5, 3] [6, 21, 20, 19, 18, 17, 10, 9, 7] xs15) := hcut
  clear hcut R15
  go_upto_region 16 with fail
  go_cut [] from 150 to 162 (fun wd => ∃ xs', Rz base O n me w0 wd [25, 16, 11, 8, 5, 3] [22, 6, 21, 20, 19, 18, 17, 10, 9, 7] xs')
  case first =>
    have g : W15.cell? ⟨O, 22, none⟩ = some (.slice none 0 0) := R16.out.get 22 (by omega) (by simp) (by simp)
    have g1 : W15.cell? ⟨O, 1, none⟩ = some (.int .i64 0) := R16.out.get 1 (by omega) (by simp) (by simp)
    go_region_with (go_at_call 22; refine (pairs_any n h8 _ _).mono ?_; intro e V hp; obtain ⟨c, rfl, gV, fz, hR'⟩ := R16.out.pairs 22 (by omega) (by simp) (by simp) hp; replace gV : V.cell? ⟨O, 22, none⟩ = some (.slice none 0 0) := gV; clear hp)
    all_goals
      go_wp2
      go_meet
      exact hR'
  case rest =>
  obtain ⟨xs16, hcut⟩ := hcut
  obtain ⟨W16, hWk⟩ : ∃ W16, W16 = wc := ⟨_, rfl⟩
  rw [← hWk] at hcut ⊢
  clear hWk
  have R17 : Hid (Rz base O n me w0 W16 [25, 16, 11, 8, 5, 3] [22, 6, 21, 20, 19, 18, 17, 10, 9, 7] xs16) := hcut
  clear hcut R16
  go_upto_region 17 with fail
  go_cut [] from 163 to 175 (fun wd => ∃ xs', Rz base O n me w0 wd [25, 16, 11, 8, 5, 3] [23, 22, 6, 21, 20, 19, 18, 17, 10, 9, 7] xs')
  case first =>
    have g : W16.cell? ⟨O, 23, none⟩ = some (.slice none 0 0) := R17.out.get 23 (by omega) (by simp) (by simp)
    have g1 : W16.cell? ⟨O, 1, none⟩ = some (.int .i64 0) := R17.out.get 1 (by omega) (by simp) (by simp)
    go_region_with (go_at_call 22; refine (pairs_any n h8 _ _).mono ?_; intro e V hp; obtain ⟨c, rfl, gV, fz, hR'⟩ := R17.out.pairs 23 (by omega) (by simp) (by simp) hp; replace gV : V.cell? ⟨O, 23, none⟩ = some (.slice none 0 0) := gV; clear hp)
    all_goals
      go_wp2
      go_meet
      exact hR'
  case rest =>
  obtain ⟨xs17, hcut⟩ := hcut
  obtain ⟨W17, hWk⟩ : ∃ W17, W17 = wc := ⟨_, rfl⟩
  rw [← hWk] at hcut ⊢
  clear hWk
  have R18 : Hid (Rz base O n me w0 W17 [25, 16, 11, 8, 5, 3] [23, 22, 6, 21, 20, 19, 18, 17, 10, 9, 7] xs17) := hcut
  clear hcut R17
  have g1 : W17.cell? ⟨O, 1, none⟩ = some (.int .i64 0) := R18.out.get 1 (by omega) (by simp) (by simp)
  have fz := R18.out.free' (Fr.refl _ _ _ _) 1
  have R19 : Hid (Rz base O n me w0 (W17.setCell ⟨O, 1, none⟩ (.int .i64 n)) [25, 16, 11, 8, 5, 3] [1, 23, 22, 6, 21, 20, 19, 18, 17, 10, 9, 7] (xs17.set 1 (.int .i64 n))) := R18.out.loose (Fr.refl _ _ _ _) (fun h => h) 1 (by simp) _
  have hl := R18.out.len
  go_wp2
  go_end0
  exact ⟨rfl, _, R19.out, by rw [List.getElem?_set_self (by omega)]⟩

end Go.Proofs.YbulkbobqFmt
