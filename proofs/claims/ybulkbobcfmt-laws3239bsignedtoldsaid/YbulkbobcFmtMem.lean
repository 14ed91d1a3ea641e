/-
  What the container, the reader and the runs look like in memory; what a call leaves alone.
-/
import Derived.Test.YbulkbobcFmtFmt
import Derived.Laws.CopyRow
import Derived.Deep.Draws
namespace Go.Proofs.YbulkbobcFmt
open Go.RowKit

/-- Below block B all is as it was, but for the blocks of S. -/
structure Only (B : Nat) (S : List Nat) (w w' : World) : Prop where
  os : w'.os = w.os
  tape : w'.tape = w.tape
  output : w'.output = w.output
  size : w.heap.size ≤ w'.heap.size
  block : ∀ k, k < B → k ∉ S → w'.heap[k]? = w.heap[k]?

section
variable {B : Nat} {S : List Nat} {w w' w'' : World}
theorem Only.refl (B : Nat) (S : List Nat) (w : World) : Only B S w w := ⟨rfl, rfl, rfl, Nat.le_refl _, fun _ _ _ => rfl⟩
theorem Only.trans (h : Only B S w w') (k : Only B S w' w'') : Only B S w w'' :=
  ⟨k.os.trans h.os, k.tape.trans h.tape, k.output.trans h.output, Nat.le_trans h.size k.size, fun i hi hs => (k.block i hi hs).trans (h.block i hi hs)⟩
theorem Only.wider {S' : List Nat} (h : Only B S w w') (hs : ∀ k, k ∈ S → k ∈ S') : Only B S' w w' := ⟨h.os, h.tape, h.output, h.size, fun i hi h' => h.block i hi fun k => h' (hs _ k)⟩
theorem Only.mono {B' : Nat} (h : Only B S w w') (hB : B' ≤ B) : Only B' S w w' := ⟨h.os, h.tape, h.output, h.size, fun i hi h' => h.block i (by omega) h'⟩
theorem Only.ofBelow (h : Below B w w') : Only B S w w' := ⟨h.os, h.tape, h.output, h.size, fun i hi _ => h.block i hi⟩
theorem Only.below {B' : Nat} (h : Only B S w w') (hB : B' ≤ B) (hs : ∀ k, k ∈ S → B' ≤ k) : Below B' w w' := ⟨h.os, h.tape, h.output, h.size, fun i hi => h.block i (by omega) fun k => by have := hs _ k; omega⟩
theorem Only.drewN (h : Only B S w w') (n : Nat) : Only B S w (w'.drewN n) := ⟨h.os, h.tape, h.output, h.size, h.block⟩
theorem Only.drew (h : Only B S w w') : Only B S w w'.drew := ⟨h.os, h.tape, h.output, h.size, h.block⟩
theorem Only.alloc (h : Only B S w w') (hB : B ≤ w'.heap.size) (o : Obj) : Only B S w (w'.alloc o) := h.trans (Only.ofBelow ((Below.refl B w').alloc hB o))
theorem Only.setRow (h : Only B S w w') {g : Nat} (hg : g ∈ S) (cs : Array Value) : Only B S w (w'.setRow g cs) :=
  h.trans ⟨rfl, rfl, rfl, by simp [World.setRow], fun i _ hs => setRow_other w' g i cs (fun e => hs (e ▸ hg))⟩
theorem Only.setCell (h : Only B S w w') {p : Addr} (hg : p.block ∈ S) (v : Value) : Only B S w (w'.setCell p v) :=
  h.trans ⟨rfl, rfl, rfl, by simp [World.setCell], fun i _ hs => Below.heap_setCell w' p v i (fun e => hs (e ▸ hg))⟩
theorem Only.cell (h : Only B S w w') {p : Addr} (hp : p.block < B) (hs : p.block ∉ S) : w'.cell? p = w.cell? p := World.cell?_of_block (h.block _ hp hs)
end

/-- The container's cells. -/
def contL (rd run : Value) (used size pos : Int) (ds : List Value) : List Value :=
  [.string ⟨#[108, 105, 115, 116, 112, 97, 99, 107]⟩, rd, run, .int .i64 used, .int .u64 size, .int .u64 pos, .int .i64 0, .int .i64 0] ++ ds ++ [.bool false, .slice none 0 0]

/-- The container lies in block C: its reader, the run at hand, what is used of it, the size, the place, the eight data cells. -/
def Cont (w : World) (C R : Nat) (run : Value) (used size pos : Int) (ds : List Value) : Prop :=
  w.heap[C]? = some (.cells (contL (.iface 28 (.pointer (some ⟨R, 0, none⟩))) run used size pos ds).toArray 39 (0, 0)) ∧ ds.length = 8

section
variable {w w' : World} {C R : Nat} {run : Value} {used size pos : Int} {ds : List Value}
theorem Cont.lt (h : Cont w C R run used size pos ds) : C < w.heap.size := (Array.getElem?_eq_some_iff.1 h.1).1
theorem Cont.cells (h : Cont w C R run used size pos ds) :
    w.cell? ⟨C, 0, none⟩ = some (.string ⟨#[108, 105, 115, 116, 112, 97, 99, 107]⟩) ∧ w.cell? ⟨C, 1, none⟩ = some (.iface 28 (.pointer (some ⟨R, 0, none⟩))) ∧ w.cell? ⟨C, 2, none⟩ = some run ∧
    w.cell? ⟨C, 3, none⟩ = some (.int .i64 used) ∧ w.cell? ⟨C, 4, none⟩ = some (.int .u64 size) ∧ w.cell? ⟨C, 5, none⟩ = some (.int .u64 pos) ∧ w.cell? ⟨C, 6, none⟩ = some (.int .i64 0) := by
  refine ⟨?_, ?_, ?_, ?_, ?_, ?_, ?_⟩ <;> simp [World.cell?, h.1, contL]
theorem Cont.free (h : Cont w C R run used size pos ds) (o : Nat) : w.frozen? ⟨C, o, none⟩ = false := by simp [World.frozen?, h.1]
theorem Cont.data (h : Cont w C R run used size pos ds) (j : Nat) (hj : j < 8) : w.cell? ⟨C, 8 + j, none⟩ = ds[j]? := by
  have hl := h.2
  simp only [World.cell?, h.1, contL]
  simp only [List.getElem?_toArray, List.append_assoc]
  rw [List.getElem?_append_right (by simp)]
  simp only [List.length_cons, List.length_nil]
  rw [show 8 + j - (0 + 1 + 1 + 1 + 1 + 1 + 1 + 1 + 1) = j from by omega, List.getElem?_append_left (by omega)]
  simp
theorem Cont.keep (h : Cont w C R run used size pos ds) (hb : w'.heap[C]? = w.heap[C]?) : Cont w' C R run used size pos ds := ⟨hb.trans h.1, h.2⟩
theorem Cont.setUsed (h : Cont w C R run used size pos ds) (u : Int) : Cont (w.setCell ⟨C, 3, none⟩ (.int .i64 u)) C R run u size pos ds := by
  refine ⟨?_, h.2⟩
  rw [setCell_eq_setRow w C 3 _ 39 (0, 0) _ h.1, setRow_heap w C _ _ 39 (0, 0) h.1]
  simp [contL]
theorem Cont.setRun (h : Cont w C R run used size pos ds) (r : Value) : Cont (w.setCell ⟨C, 2, none⟩ r) C R r used size pos ds := by
  refine ⟨?_, h.2⟩
  rw [setCell_eq_setRow w C 2 _ 39 (0, 0) _ h.1, setRow_heap w C _ _ 39 (0, 0) h.1]
  simp [contL]
theorem Cont.setPos (h : Cont w C R run used size pos ds) (p : Int) : Cont (w.setCell ⟨C, 5, none⟩ (.int .u64 p)) C R run used size p ds := by
  refine ⟨?_, h.2⟩
  rw [setCell_eq_setRow w C 5 _ 39 (0, 0) _ h.1, setRow_heap w C _ _ 39 (0, 0) h.1]
  simp [contL]
/-- What 'copy' into the data cells from j on leaves. -/
theorem Cont.setData (h : Cont w C R run used size pos ds) (j : Nat) (cs : List Value) (hj : j + cs.length ≤ 8) :
    Cont (w.setRow C ((contL (.iface 28 (.pointer (some ⟨R, 0, none⟩))) run used size pos ds).toArray.toList.take (8 + j) ++ cs ++ (contL (.iface 28 (.pointer (some ⟨R, 0, none⟩))) run used size pos ds).toArray.toList.drop (8 + j + cs.length)).toArray)
      C R run used size pos (ds.take j ++ cs ++ ds.drop (j + cs.length)) := by
  have hl := h.2
  refine ⟨?_, by simp; omega⟩
  rw [setRow_heap w C _ _ 39 (0, 0) h.1]
  congr 3
  simp only [contL]
  generalize hH : ([.string ⟨#[108, 105, 115, 116, 112, 97, 99, 107]⟩, .iface 28 (.pointer (some ⟨R, 0, none⟩)), run, .int .i64 used, .int .u64 size, .int .u64 pos, .int .i64 0, .int .i64 0] : List Value) = H
  have hHl : H.length = 8 := by rw [← hH]; rfl
  rw [List.take_append_of_le_length (by simp; omega), List.drop_append_of_le_length (by simp; omega)]
  rw [show 8 + j = H.length + j from by omega, List.take_length_add_append, Nat.add_assoc, List.drop_length_add_append]
  simp only [List.append_assoc]
end

/-- A slice of bytes that lies outside the blocks of S, below B. -/
def Run (B : Nat) (S : List Nat) (w : World) (v : Value) (xs : List Int) : Prop :=
  (∀ x ∈ xs, 0 ≤ x ∧ x ≤ 255) ∧ ((xs = [] ∧ ∃ a c, v = .slice a 0 c) ∨
  ∃ b o c, v = .slice (some ⟨b, o, none⟩) xs.length c ∧ xs.length ≤ c ∧ 0 < xs.length ∧ b < B ∧ b ∉ S ∧ ∀ i, i < xs.length → w.cell? ⟨b, o + i, none⟩ = some (.int .u8 (xs.getD i 0)))

theorem Run.only {B : Nat} {S : List Nat} {w w' : World} {v : Value} {xs : List Int} (h : Run B S w v xs) (ho : Only B S w w') : Run B S w' v xs := by
  refine ⟨h.1, ?_⟩
  rcases h.2 with h | ⟨b, o, c, h1, h2, h3, h4, h5, h6⟩
  · exact .inl h
  · exact .inr ⟨b, o, c, h1, h2, h3, h4, h5, fun i hi => (ho.cell (p := ⟨b, o + i, none⟩) h4 h5).trans (h6 i hi)⟩

theorem Run.len {B : Nat} {S : List Nat} {w : World} {v : Value} {xs : List Int} (h : Run B S w v xs) : ∃ a c, v = .slice a xs.length c := by
  rcases h.2 with ⟨rfl, a, c, h⟩ | ⟨b, o, c, h, _⟩
  · exact ⟨a, c, by simpa using h⟩
  · exact ⟨_, c, h⟩

/-- The reader's runs: the row at g holds the slices vs, which hold the bytes xss. -/
def Runs (B : Nat) (S : List Nat) (w : World) (g : Nat) (vs : List Value) (xss : List (List Int)) : Prop :=
  g < B ∧ g ∉ S ∧ vs.length = xss.length ∧ ∀ i (hv : i < vs.length) (hx : i < xss.length), w.cell? ⟨g, i, none⟩ = some vs[i] ∧ Run B S w vs[i] xss[i]

theorem Runs.only {B : Nat} {S : List Nat} {w w' : World} {g : Nat} {vs : List Value} {xss : List (List Int)} (h : Runs B S w g vs xss) (ho : Only B S w w') : Runs B S w' g vs xss :=
  ⟨h.1, h.2.1, h.2.2.1, fun i hv hx => ⟨(ho.cell (p := ⟨g, i, none⟩) h.1 h.2.1).trans (h.2.2.2 i hv hx).1, (h.2.2.2 i hv hx).2.only ho⟩⟩

/-- The reader lies in block R. -/
def Rd (w : World) (R g m cap : Nat) (k calls : Int) : Prop :=
  w.heap[R]? = some (.cells #[.slice (some ⟨g, 0, none⟩) m cap, .int .i64 k, .int .i64 calls] 41 (0, 0))

section
variable {w w' : World} {R g m cap : Nat} {k calls : Int}
theorem Rd.lt (h : Rd w R g m cap k calls) : R < w.heap.size := (Array.getElem?_eq_some_iff.1 h).1
theorem Rd.cells (h : Rd w R g m cap k calls) : w.cell? ⟨R, 0, none⟩ = some (.slice (some ⟨g, 0, none⟩) m cap) ∧ w.cell? ⟨R, 1, none⟩ = some (.int .i64 k) ∧ w.cell? ⟨R, 2, none⟩ = some (.int .i64 calls) := by
  unfold Rd at h
  refine ⟨?_, ?_, ?_⟩ <;> simp [World.cell?, h]
theorem Rd.free (h : Rd w R g m cap k calls) (o : Nat) : w.frozen? ⟨R, o, none⟩ = false := by unfold Rd at h; simp [World.frozen?, h]
theorem Rd.keep (h : Rd w R g m cap k calls) (hb : w'.heap[R]? = w.heap[R]?) : Rd w' R g m cap k calls := hb.trans h
theorem Rd.setK (h : Rd w R g m cap k calls) (k' : Int) : Rd (w.setCell ⟨R, 1, none⟩ (.int .i64 k')) R g m cap k' calls := by
  unfold Rd at h ⊢
  rw [setCell_eq_setRow w R 1 _ 41 (0, 0) _ h, setRow_heap w R _ _ 41 (0, 0) h]
  simp
theorem Rd.setCalls (h : Rd w R g m cap k calls) (c' : Int) : Rd (w.setCell ⟨R, 2, none⟩ (.int .i64 c')) R g m cap k c' := by
  unfold Rd at h ⊢
  rw [setCell_eq_setRow w R 2 _ 41 (0, 0) _ h, setRow_heap w R _ _ 41 (0, 0) h]
  simp
end

end Go.Proofs.YbulkbobcFmt
