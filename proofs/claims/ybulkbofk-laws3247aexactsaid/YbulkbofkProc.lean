/-
  The contracts of process, of the closure and of slices.IndexFunc.
-/
import Derived.Test.YbulkbofkRow
namespace Go.Proofs.Ybulkbofk
open Go.RowKit

def s0 : Value := .string ⟨#[]⟩
/-- The zero process. -/
def zP : List Value := [.int .i64 0, .int .i64 0, s0, .slice none 0 0, s0, s0, .int .i64 0, .int .u64 0, .int .i64 0, .pointer none, .float .f64 0, .int .u64 0, .pointer none]
/-- A process: pid, command, state, threads, cpu, rss. -/
def pr (pid : Int) (cmd st : ByteArray) (th : Int) (fl : Nat) (rss : Int) : List Value := [.int .i64 pid, .int .i64 0, .string cmd, .slice none 0 0, s0, .string st, .int .i64 th, .int .u64 0, .int .i64 0, .pointer none, .float .f64 fl, .int .u64 rss, .pointer none]
theorem Yba.size32 : (Yba.prog.info? 32).map (·.size) = some 13 := by kernel_rfl

/-- A float is stored. -/
theorem storeF (a : Addr) (b : Nat) (m : Mode) (w : World) : (store a (.float .f64 b) m).run Yba.prog w = stored Yba.prog w a (.float .f64 b) m := run_store Yba.prog w a _ m rfl
/-- The thirteen cells of a process at an offset. -/
def At13 (w : World) (S o : Nat) (vs : List Value) : Prop := vs.length = 13 ∧ ∀ j, j < 13 → w.cell? ⟨S, o + j, none⟩ = vs[j]?
theorem Row.at13 {w : World} {S n : Nat} {f : Nat → List Value} (h : Row w S 32 13 n f) (i : Nat) (hi : i < n) : At13 w S (i * 13) (f i) := by
  have hc := fun j hj => h.cell i j hi hj
  obtain ⟨cur, h1, h2, h3⟩ := h
  exact ⟨(h3 i hi).1, hc⟩

theorem At13.keep {w w' : World} {S o : Nat} {vs : List Value} (h : At13 w S o vs) (he : w'.heap[S]? = w.heap[S]?) : At13 w' S o vs := ⟨h.1, fun j hj => (World.cell?_of_block (a := ⟨S, o + j, none⟩) he).trans (h.2 j hj)⟩
theorem At13.lt {w : World} {S o : Nat} {vs : List Value} (h : At13 w S o vs) : S < w.heap.size := by
  have h0 := h.2 0 (by omega)
  rw [List.getElem?_eq_getElem (by rw [h.1]; omega)] at h0
  exact World.block_lt_of_cell? _ _ h0
theorem At13.cells {w : World} {S o : Nat} {pid th rss : Int} {cmd st : ByteArray} {fl : Nat} (h : At13 w S o (pr pid cmd st th fl rss)) :
    w.cell? ⟨S, o, none⟩ = some (.int .i64 pid) ∧ w.cell? ⟨S, o + 1, none⟩ = some (.int .i64 0) ∧ w.cell? ⟨S, o + 2, none⟩ = some (.string cmd) ∧ w.cell? ⟨S, o + 3, none⟩ = some (.slice none 0 0) ∧ w.cell? ⟨S, o + 4, none⟩ = some (.string ⟨#[]⟩) ∧ w.cell? ⟨S, o + 5, none⟩ = some (.string st) ∧ w.cell? ⟨S, o + 6, none⟩ = some (.int .i64 th) ∧
    w.cell? ⟨S, o + 7, none⟩ = some (.int .u64 0) ∧ w.cell? ⟨S, o + 8, none⟩ = some (.int .i64 0) ∧ w.cell? ⟨S, o + 9, none⟩ = some (.pointer none) ∧ w.cell? ⟨S, o + 10, none⟩ = some (.float .f64 fl) ∧ w.cell? ⟨S, o + 11, none⟩ = some (.int .u64 rss) ∧ w.cell? ⟨S, o + 12, none⟩ = some (.pointer none) := by
  have hc := h.2
  exact ⟨hc 0 (by omega), hc 1 (by omega), hc 2 (by omega), hc 3 (by omega), hc 4 (by omega), hc 5 (by omega), hc 6 (by omega), hc 7 (by omega), hc 8 (by omega), hc 9 (by omega), hc 10 (by omega), hc 11 (by omega), hc 12 (by omega)⟩
/-- A process in a block of its own. -/
def Pb (w : World) (B : Nat) (vs : List Value) : Prop := w.heap[B]? = some (.cells vs.toArray 32 (0, 0))
theorem Pb.at {w : World} {B : Nat} {vs : List Value} (h : Pb w B vs) (hl : vs.length = 13) : At13 w B 0 vs ∧ ∀ j, w.frozen? ⟨B, j, none⟩ = false := by
  unfold Pb at h
  refine ⟨⟨hl, fun j hj => ?_⟩, fun j => by simp [World.frozen?, h]⟩
  simp [World.cell?, h]
theorem Pb.set {w : World} {B : Nat} {vs : List Value} (h : Pb w B vs) (j : Nat) (v : Value) : Pb (w.setCell ⟨B, j, none⟩ v) B (vs.set j v) := by
  unfold Pb at h ⊢
  rw [setCell_eq_setRow w B j _ 32 (0, 0) _ h, setRow_heap w B _ _ _ _ h]
  simp
theorem Pb.fill {w : World} {B : Nat} {vs us : List Value} (h : Pb w B vs) (hl : vs.length = 13) (hu : us.length = 13) : Pb (w.setCells B 0 us) B us ∧ ∀ b, b ≠ B → (w.setCells B 0 us).heap[b]? = w.heap[b]? := by
  unfold Pb at h ⊢
  rw [setCells_row B 32 us 0 _ w h (by simp; omega)]
  refine ⟨?_, fun b hb => setRow_other w B b _ hb⟩
  rw [setRow_heap w B _ _ _ _ h]
  simp
  omega

set_option maxRecDepth 100000 in
set_option maxHeartbeats 2000000 in
theorem proc_any (Bs o : Nat) (pid : Int) (cmd st0 st : ByteArray) (th0 th : Int) (fl0 fl : Nat) (rss0 rss : Int) (w : World) (hb : At13 w Bs o (pr pid cmd st0 th0 fl0 rss0)) :
    Calls Yba.prog 19 #[.agg #[.pointer (some ⟨Bs, o, none⟩), .string st, .int .i64 th, .float .f64 fl, .int .u64 rss]] w fun e w' => e = .returned (.agg (pr pid cmd st th fl rss).toArray) ∧ Below w.heap.size w w' := by
  obtain ⟨W, hW⟩ : ∃ W, W = (w.alloc (.cells #[.pointer (some ⟨Bs, o, none⟩), .string st, .int .i64 th, .float .f64 fl, .int .u64 rss] 38)).alloc (.cells zP.toArray 32) := ⟨_, rfl⟩
  have hX : W.heap[w.heap.size]? = some (.cells #[.pointer (some ⟨Bs, o, none⟩), .string st, .int .i64 th, .float .f64 fl, .int .u64 rss] 38 (0, 0)) := by rw [hW]; exact (Below.heap_alloc _ _ _ (by simp)).trans (heap_alloc_new w _)
  have hR : Pb W (w.heap.size + 1) zP := by
    rw [hW]
    have := heap_alloc_new (w.alloc (.cells #[.pointer (some ⟨Bs, o, none⟩), .string st, .int .i64 th, .float .f64 fl, .int .u64 rss] 38)) (.cells zP.toArray 32)
    unfold Pb
    simpa using this
  have HWb : Hid (Below w.heap.size w W) := by rw [hW]; exact ((Below.refl _ _).alloc (Nat.le_refl _) _).alloc (by simp) _
  have hsz : W.heap.size = w.heap.size + 2 := by rw [hW]; simp
  have hbW := hb.keep (w' := W) (HWb.out.block _ hb.lt)
  simp only [zP, s0] at hW
  have hsf := storeF
  go_enter Yba.func19, Yba.ntmps19
  go_upto_region 1 with fail
  rw [← hW]
  have hBs := hb.lt
  clear hW hb
  obtain ⟨X, hXe⟩ : ∃ X, X = w.heap.size := ⟨_, rfl⟩
  rw [← hXe] at hX hR HWb hsz hBs ⊢
  have HXE : Hid (w.heap.size = X) := hXe.symm
  clear hXe
  have x0 : W.cell? ⟨X, 0, none⟩ = some (.pointer (some ⟨Bs, o, none⟩)) := by simp [World.cell?, hX]
  have HSZ : Hid (W.heap.size = X + 2) := hsz
  clear hsz
  obtain ⟨c0, c1, c2, c3, c4, c5, c6, c7, c8, c9, c10, c11, c12⟩ := hbW.cells
  go_upto_region 2 with fail
  have hsz := HSZ.out
  have hV : Pb (W.alloc (.cells (pr pid cmd st0 th0 fl0 rss0).toArray 32)) W.heap.size (pr pid cmd st0 th0 fl0 rss0) := heap_alloc_new W (.cells (pr pid cmd st0 th0 fl0 rss0).toArray 32)
  have hX2 : (W.alloc (.cells (pr pid cmd st0 th0 fl0 rss0).toArray 32)).heap[X]? = some (.cells #[.pointer (some ⟨Bs, o, none⟩), .string st, .int .i64 th, .float .f64 fl, .int .u64 rss] 38 (0, 0)) := (Below.heap_alloc _ _ _ (by omega)).trans hX
  have hR2 : Pb (W.alloc (.cells (pr pid cmd st0 th0 fl0 rss0).toArray 32)) (X + 1) zP := (Below.heap_alloc _ _ _ (by omega)).trans hR
  have HW2 : Hid (Below X w (W.alloc (.cells (pr pid cmd st0 th0 fl0 rss0).toArray 32))) := HWb.out.alloc (by omega) _
  clear x0 c0 c1 c2 c3 c4 c5 c6 c7 c8 c9 c10 c11 c12 hbW hX hR HWb
  simp only [pr, s0] at hV hX2 hR2 HW2
  generalize W.alloc (.cells [.int .i64 pid, .int .i64 0, .string cmd, .slice none 0 0, .string ⟨#[]⟩, .string st0, .int .i64 th0, .int .u64 0, .int .i64 0, .pointer none, .float .f64 fl0, .int .u64 rss0, .pointer none].toArray 32) = W2 at hV hX2 hR2 HW2 ⊢
  generalize W.heap.size = V at hV hsz ⊢
  have HV : Hid (V = X + 2) := hsz
  have x1 : W2.cell? ⟨X, 1, none⟩ = some (.string st) := by simp [World.cell?, hX2]
  have x2 : W2.cell? ⟨X, 2, none⟩ = some (.int .i64 th) := by simp [World.cell?, hX2]
  have x3 : W2.cell? ⟨X, 3, none⟩ = some (.float .f64 fl) := by simp [World.cell?, hX2]
  have x4 : W2.cell? ⟨X, 4, none⟩ = some (.int .u64 rss) := by simp [World.cell?, hX2]
  obtain ⟨hV13, vf⟩ := hV.at rfl
  have v5 : W2.cell? ⟨V, 5, none⟩ = some (.string st0) := by have := hV13.2 5 (by omega); simpa using this
  have v6 : W2.cell? ⟨V, 6, none⟩ = some (.int .i64 th0) := by have := hV13.2 6 (by omega); simpa using this
  have v10 : W2.cell? ⟨V, 10, none⟩ = some (.float .f64 fl0) := by have := hV13.2 10 (by omega); simpa using this
  have v11 : W2.cell? ⟨V, 11, none⟩ = some (.int .u64 rss0) := by have := hV13.2 11 (by omega); simpa using this
  have hXV : ¬ X = V := by omega
  obtain ⟨W3, hW3⟩ : ∃ W3, W3 = (((W2.setCell ⟨V, 5, none⟩ (.string st)).setCell ⟨V, 6, none⟩ (.int .i64 th)).setCell ⟨V, 10, none⟩ (.float .f64 fl)).setCell ⟨V, 11, none⟩ (.int .u64 rss) := ⟨_, rfl⟩
  have h3 : Pb W3 V (pr pid cmd st th fl rss) := by rw [hW3]; exact (((hV.set 5 _).set 6 _).set 10 _).set 11 _
  have h3R : Pb W3 (X + 1) zP := by
    rw [hW3]
    have e : X + 1 ≠ V := by omega
    exact (Below.heap_setCell _ _ _ _ e).trans ((Below.heap_setCell _ _ _ _ e).trans ((Below.heap_setCell _ _ _ _ e).trans ((Below.heap_setCell _ _ _ _ e).trans hR2)))
  have HW3 : Hid (Below X w W3) := by
    rw [hW3]
    have e : X ≤ V := by omega
    exact (((HW2.out.setCell e _).setCell e _).setCell e _).setCell e _
  have HE3 : Hid (Below X w W3 ∧ Pb W3 V (pr pid cmd st th fl rss) ∧ Pb W3 (X + 1) zP) := ⟨HW3.out, h3, h3R⟩
  clear hV hX2 hR2 HW2 hV13 HSZ hsz h3 h3R HW3
  go_region
  rw [← hW3]
  have HE4 : Hid (Below X w W3.drew ∧ Pb W3.drew V (pr pid cmd st th fl rss) ∧ Pb W3.drew (X + 1) zP) := ⟨HE3.out.1.drew, HE3.out.2.1, HE3.out.2.2⟩
  clear hW3 HE3 x1 x2 x3 x4 vf v5 v6 v10 v11
  generalize W3.drew = W4 at HE4 ⊢
  obtain ⟨hV4, _⟩ := HE4.out.2.1.at rfl
  obtain ⟨c0, c1, c2, c3, c4, c5, c6, c7, c8, c9, c10, c11, c12⟩ := hV4.cells
  obtain ⟨hR4, rf⟩ := HE4.out.2.2.at rfl
  obtain ⟨r0, r1, r2, r3, r4, r5, r6, r7, r8, r9, r10, r11, r12⟩ := (show At13 W4 (X + 1) 0 (pr 0 ⟨#[]⟩ ⟨#[]⟩ 0 0 0) from hR4).cells
  have HF : Hid (Pb (W4.setCells (X + 1) 0 (pr pid cmd st th fl rss)) (X + 1) (pr pid cmd st th fl rss) ∧ Below X w (W4.setCells (X + 1) 0 (pr pid cmd st th fl rss))) := by
    obtain ⟨f1, f2⟩ := HE4.out.2.2.fill rfl (us := pr pid cmd st th fl rss) rfl
    refine ⟨f1, ?_⟩
    have hb := HE4.out.1
    rw [setCells_row (X + 1) 32 _ 0 _ W4 HE4.out.2.2 (by simp [pr, zP])] at f2 ⊢
    exact ⟨hb.os, hb.tape, hb.output, by simpa [World.setRow] using hb.size, fun k hk => (f2 k (by omega)).trans (hb.block k hk)⟩
  clear hV4 hR4
  go_wp2
  exact bodyPost_ret (results_cell_row rfl _ _ (X + 1) 32 (pr pid cmd st th fl rss).toArray (0, 0) _ rfl HF.out.1 Yba.underlying32 rfl Yba.size32) rfl ⟨rfl, by rw [HXE.out]; exact HF.out.2⟩

/-- Where a pid stands first. -/
def First (q : List Int) (pid : Int) : Option Nat → Prop
  | some j => j < q.length ∧ q.getD j 0 = pid ∧ ∀ i, i < j → q.getD i 0 ≠ pid
  | none => ∀ i, i < q.length → q.getD i 0 ≠ pid
theorem First.unique {q : List Int} {pid : Int} {a b : Option Nat} (ha : First q pid a) (hb : First q pid b) : a = b := by
  cases a with
  | none =>
    cases b with
    | none => rfl
    | some j => exact absurd hb.2.1 (ha j hb.1)
  | some i =>
    cases b with
    | none => exact absurd ha.2.1 (hb i ha.1)
    | some j =>
      rcases Nat.lt_trichotomy i j with h | h | h
      · exact absurd ha.2.1 (hb.2.2 i h)
      · rw [h]
      · exact absurd hb.2.1 (ha.2.2 j h)

set_option maxHeartbeats 1000000 in
theorem clo_any (P : Nat) (pid p0 : Int) (cmd st : ByteArray) (th : Int) (fl : Nat) (rss : Int) (w : World) (hp : w.cell? ⟨P, 0, none⟩ = some (.int .i64 pid)) :
    Calls Yba.prog 21 #[.agg (pr p0 cmd st th fl rss).toArray, .pointer (some ⟨P, 0, none⟩)] w fun e w' => e = .returned (.bool (p0 == pid)) ∧ Below w.heap.size w w' := by
  have hp2 : ∀ X, (w.alloc X).cell? ⟨P, 0, none⟩ = some (.int .i64 pid) := fun X => by
    rw [World.cell?_of_block (a := ⟨P, 0, none⟩) (Below.heap_alloc _ _ _ (World.block_lt_of_cell? _ _ hp))]
    exact hp
  unfold pr s0
  go_enter Yba.func21, Yba.ntmps21
  go_wp2
  go_ret
  exact ⟨rfl, (Below.refl _ _).alloc (Nat.le_refl _) _⟩

end Go.Proofs.Ybulkbofk
