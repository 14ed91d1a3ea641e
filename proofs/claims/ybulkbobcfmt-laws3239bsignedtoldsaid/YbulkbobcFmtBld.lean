/-
  The loop of zzs3239bbuild: what one round does to memory.
-/
import Derived.Test.YbulkbobcFmtClone
namespace Go.Proofs.YbulkbobcFmt
open Go.RowKit

/-- 'New', outside the rows of 'bad'. -/
def Newo (lo : Nat) (bad : List (Option Nat)) (w : World) (v : Value) (xs : List Int) : Prop :=
  (xs = [] ∧ ∃ a c, v = .slice a 0 c) ∨ ∃ b c, v = .slice (some ⟨b, 0, none⟩) xs.length c ∧ xs.length ≤ c ∧ 0 < xs.length ∧ lo ≤ b ∧ b < w.heap.size ∧ (some b) ∉ bad ∧ ∀ i, i < xs.length → w.cell? ⟨b, 0 + i, none⟩ = some (.int .u8 (xs.getD i 0))

structure Bld (w wr : World) (B0 g m : Nat) (ps : List Int) (yss : List (List Int)) (k : Nat) (vals : List Value) (tv : Value) : Prop where
  rc : wr.ownsRow B0 22 1 (.slice (some ⟨g, 0, none⟩) k m) k vals
  tot : wr.ownsRow B0 5 1 tv (ps ++ (yss.take k).flatten).length ((ps ++ (yss.take k).flatten).map (Value.int .u8))
  tg : tv.ownBlock ≠ some g
  vals : ∀ i, i < k → Newo B0 [some g, tv.ownBlock] wr (vals.getD i (.slice none 0 0)) (yss.getD i [])
  below : Below B0 w wr
  gB : B0 ≤ g
  hB : B0 ≤ wr.heap.size

theorem Bld.g_lt {w wr : World} {B0 g m : Nat} {ps : List Int} {yss : List (List Int)} {k : Nat} {vals : List Value} {tv : Value} (h : Bld w wr B0 g m ps yss k vals tv) : g < wr.heap.size := (h.rc.lt g rfl).2
theorem Bld.t_lt {w wr : World} {B0 g m : Nat} {ps : List Int} {yss : List (List Int)} {k : Nat} {vals : List Value} {tv : Value} (h : Bld w wr B0 g m ps yss k vals tv) : ∀ t, tv.ownBlock = some t → B0 ≤ t ∧ t < wr.heap.size := h.tot.lt

theorem grown_of_below {w w' : World} (h : Below w.heap.size w w') (row : Option Nat) : w.grownBy w' row := ⟨h.os, h.tape, h.output, h.size, fun k hk _ => h.block k hk⟩

/-- One round. -/
theorem Bld.step {w wr w1 w2 w3 : World} {B0 g m : Nat} {ps : List Int} {yss : List (List Int)} {k : Nat} {vals : List Value} {tv tv' v' : Value} (h : Bld w wr B0 g m ps yss k vals tv) (hk : k < yss.length)
    (hn : New wr.heap.size w1 v' (yss.getD k [])) (hb1 : Below wr.heap.size wr w1)
    (h2 : w2.ownsRow B0 22 1 (.slice (some ⟨g, 0, none⟩) (k + 1) m) (k + 1) (vals ++ [v'])) (hg2 : (w1.alloc (.cells #[v'] 22)).grownBy w2 (some g))
    (h3 : w3.ownsRow B0 5 1 tv' ((ps ++ (yss.take k).flatten).length + (yss.getD k []).length) ((ps ++ (yss.take k).flatten).map (Value.int .u8) ++ (yss.getD k []).map (Value.int .u8)))
    (hg3 : w2.grownBy w3 tv.ownBlock) (hat : tv'.ownBlock = tv.ownBlock ∨ tv'.ownBlock = some w2.heap.size) :
    Bld w w3 B0 g m ps yss (k + 1) (vals ++ [v']) tv' := by
  have hgl := h.g_lt
  have htl := h.t_lt
  have hs1 := hb1.size
  have hs2 : w1.heap.size + 1 ≤ w2.heap.size := by have := hg2.size; simpa using this
  have hs3 := hg3.size
  have hvl : vals.length = k := by simpa using h.rc.1
  have hflat : ps ++ (yss.take (k + 1)).flatten = (ps ++ (yss.take k).flatten) ++ yss.getD k [] := by
    rw [List.take_succ_eq_append_getElem hk, List.flatten_append, List.getD_eq_getElem?_getD, List.getElem?_eq_getElem hk]
    simp
  -- a cell below the round's start, in another row
  have keep : ∀ b j, b < wr.heap.size → b ≠ g → tv.ownBlock ≠ some b → w3.cell? ⟨b, j, none⟩ = wr.cell? ⟨b, j, none⟩ := by
    intro b j hb hbg hbt
    have e3 : w3.heap[b]? = w2.heap[b]? := hg3.block b (by omega) (fun e => hbt e.symm)
    have e2 : w2.heap[b]? = (w1.alloc (.cells #[v'] 22)).heap[b]? := hg2.block b (by simp; omega) (by simpa using hbg)
    have e1 : (w1.alloc (.cells #[v'] 22)).heap[b]? = w1.heap[b]? := Below.heap_alloc w1 _ b (by omega)
    have e0 : w1.heap[b]? = wr.heap[b]? := hb1.block b hb
    exact World.cell?_of_block (a := ⟨b, j, none⟩) (by show w3.heap[b]? = wr.heap[b]?; rw [e3, e2, e1, e0])
  have keep1 : ∀ b j, b < w1.heap.size → b ≠ g → tv.ownBlock ≠ some b → w3.cell? ⟨b, j, none⟩ = w1.cell? ⟨b, j, none⟩ := by
    intro b j hb hbg hbt
    have e3 : w3.heap[b]? = w2.heap[b]? := hg3.block b (by omega) (fun e => hbt e.symm)
    have e2 : w2.heap[b]? = (w1.alloc (.cells #[v'] 22)).heap[b]? := hg2.block b (by simp; omega) (by simpa using hbg)
    have e1 : (w1.alloc (.cells #[v'] 22)).heap[b]? = w1.heap[b]? := Below.heap_alloc w1 _ b (by omega)
    exact World.cell?_of_block (a := ⟨b, j, none⟩) (by show w3.heap[b]? = w1.heap[b]?; rw [e3, e2, e1])
  have hat' : ∀ b, tv'.ownBlock = some b → tv.ownBlock = some b ∨ b = w2.heap.size := by
    intro b hb
    rcases hat with e | e
    · exact .inl (e.symm.trans hb)
    · exact .inr (by rw [hb] at e; simpa using e)
  have tg' : tv'.ownBlock ≠ some g := fun e => by
    rcases hat' g e with e | e
    · exact h.tg e
    · omega
  refine ⟨h2.kept hg3 (.inr ?_), ?_, tg', ?_, ?_, h.gB, by have := h.hB; omega⟩
  · simpa [Value.ownBlock] using fun e => h.tg e.symm
  · rw [hflat, List.length_append, List.map_append]
    exact h3
  · intro i hi
    by_cases hik : i < k
    · have hgd : (vals ++ [v']).getD i (.slice none 0 0) = vals.getD i (.slice none 0 0) := by
        rw [List.getD_eq_getElem?_getD, List.getD_eq_getElem?_getD, List.getElem?_append_left (by omega)]
      rw [hgd]
      rcases h.vals i hik with he | ⟨b, c, hv, hlc, h0, hlo, hlt, hbad, hcell⟩
      · exact .inl he
      · have hbg : b ≠ g := fun e => hbad (by simp [e])
        have hbt : tv.ownBlock ≠ some b := fun e => hbad (by simp [e])
        refine .inr ⟨b, c, hv, hlc, h0, hlo, by omega, ?_, fun j hj => (keep b _ hlt hbg hbt).trans (hcell j hj)⟩
        simp only [List.mem_cons, List.not_mem_nil, or_false, not_or]
        refine ⟨fun e => hbg (by simpa using e), fun e => ?_⟩
        rcases hat' b e.symm with e | e
        · exact hbt e
        · omega
    · obtain rfl : i = k := by omega
      have hgd : (vals ++ [v']).getD i (.slice none 0 0) = v' := by
        rw [List.getD_eq_getElem?_getD, List.getElem?_append_right (by omega), hvl]
        simp
      rw [hgd]
      rcases hn with he | ⟨b, c, hv, hlc, h0, hlo, hlt, hcell⟩
      · exact .inl he
      · have hbg : b ≠ g := by omega
        have hbt : tv.ownBlock ≠ some b := fun e => by have := htl b e; omega
        refine .inr ⟨b, c, hv, hlc, h0, by have := h.hB; omega, by omega, ?_, fun j hj => (keep1 b _ hlt hbg hbt).trans (hcell j hj)⟩
        simp only [List.mem_cons, List.not_mem_nil, or_false, not_or]
        refine ⟨fun e => hbg (by simpa using e), fun e => ?_⟩
        rcases hat' b e.symm with e | e
        · exact hbt e
        · omega
  · have hB := h.hB
    refine ((((h.below.trans (hb1.mono hB)).alloc (by omega) _).grown hg2 (by simp; omega) ?_).grown hg3 (by omega) ?_)
    · intro k hk; have := h.gB; simp at hk; omega
    · intro t ht; exact (htl t ht).1

end Go.Proofs.YbulkbobcFmt
