/-
  A queue of messages in memory; At, Drop, Pop.
-/
import Derived.Test.YbulkbobqFmtDeliver
namespace Go.Proofs.YbulkbobqFmt
open Go.RowKit

/-- A message: sender, number, destinations, its entries' slice. -/
structure Msg where
  p : Nat
  q : Int
  t : Int
  e : Option Addr
  ml : Nat

def Msg.arr (m : Msg) : Array Value := msgA m.p m.q m.t (.slice m.e m.ml m.ml)
def Msg.cells (m : Msg) : List Value := m.arr.toList
theorem Msg.cells_length (m : Msg) : m.cells.length = 8 := rfl
theorem Msg.one (m : Msg) : ∀ u ∈ m.cells, u.oneCell' = true := by
  intro u hu
  simp [Msg.cells, Msg.arr, msgA] at hu
  rcases hu with rfl | rfl | rfl | rfl | rfl | rfl | rfl <;> rfl

/-- The queue with the slice v and the head hd holds the messages ms. -/
def Qu (base : Nat) (w : World) (v : Value) (hd : Nat) (ms : List Msg) : Prop :=
  (v = .slice none 0 0 ∧ hd = 0 ∧ ms = []) ∨ ∃ (b len c : Nat) (cur : Array Value), v = .slice (some ⟨b, 0, none⟩) len c ∧ base ≤ b ∧ w.heap[b]? = some (.cells cur 32 (0, 0)) ∧ hd ≤ len ∧ len ≤ c ∧ c ≤ maxLen ∧ cur.size = c * 8 ∧
    hd + ms.length = len ∧ ∀ i (h : i < ms.length) j, j < 8 → cur[(hd + i) * 8 + j]? = (ms[i].cells)[j]?

theorem Qu.same {base : Nat} {w w' : World} {v : Value} {hd : Nat} {ms : List Msg} (h : Qu base w v hd ms) (he : ∀ b, v.ownBlock = some b → w'.heap[b]? = w.heap[b]?) : Qu base w' v hd ms := by
  rcases h with h | ⟨b, len, c, cur, rfl, h2, h3, rest⟩
  · exact .inl h
  · exact .inr ⟨b, len, c, cur, rfl, h2, (he b rfl).trans h3, rest⟩
theorem Qu.form {base : Nat} {w : World} {v : Value} {hd : Nat} {ms : List Msg} (h : Qu base w v hd ms) : ∃ a c, v = .slice a (hd + ms.length) c := by
  rcases h with ⟨rfl, rfl, rfl⟩ | ⟨b, len, c, cur, rfl, _, _, _, _, _, _, h, _⟩
  · exact ⟨none, 0, rfl⟩
  · exact ⟨_, c, by rw [h]⟩
/-- The i-th message's cells. -/
theorem Qu.at {base : Nat} {w : World} {v : Value} {hd : Nat} {ms : List Msg} (h : Qu base w v hd ms) (i : Nat) (hi : i < ms.length) :
    ∃ b c, v = .slice (some ⟨b, 0, none⟩) (hd + ms.length) c ∧ b < w.heap.size ∧ hd + ms.length ≤ c ∧ ∀ j, j < 8 → w.cell? ⟨b, (hd + i) * 8 + j, none⟩ = (ms[i].cells)[j]? := by
  rcases h with ⟨_, _, rfl⟩ | ⟨b, len, c, cur, rfl, _, h3, _, h5, _, _, rfl, h7⟩
  · simp at hi
  · refine ⟨b, c, rfl, (Array.getElem?_eq_some_iff.1 h3).1, h5, fun j hj => ?_⟩
    rw [← h7 i hi j hj]
    simp [World.cell?, h3]

theorem Ybaf.size32 : (Ybaf.prog.info? 32).map (·.size) = some 8 := by kernel_rfl

set_option maxHeartbeats 1000000 in
theorem at_any (base H o : Nat) (v : Value) (hd : Nat) (ms : List Msg) (w : World) (h0 : w.cell? ⟨H, o, none⟩ = some v) (h1 : w.cell? ⟨H, o + 1, none⟩ = some (.int .i64 hd)) (hq : Qu base w v hd ms) (hi : 0 < ms.length) (hb : hd + ms.length ≤ 1000000) :
    Calls Ybaf.prog 30 #[.pointer (some ⟨H, o, none⟩), .int .i64 0] w fun e w' => e = .returned (.agg (ms[0].arr)) ∧ Below w.heap.size w w' ∧ ∀ base, LogOK base w → LogOK base w' := by
  obtain ⟨b, c, rfl, hbl, hc, hcell⟩ := hq.at 0 hi
  have c0 := hcell 0 (by omega)
  have c1 := hcell 1 (by omega)
  have c2 := hcell 2 (by omega)
  have c3 := hcell 3 (by omega)
  have c4 := hcell 4 (by omega)
  have c5 := hcell 5 (by omega)
  have c6 := hcell 6 (by omega)
  have c7 := hcell 7 (by omega)
  generalize ms[0] = m at *
  generalize ms.length = len at *
  simp [Msg.cells, Msg.arr, msgA] at c0 c1 c2 c3 c4 c5 c6 c7
  clear hcell hq
  go_enter Ybaf.func30, Ybaf.ntmps30
  have hlt : ∀ (a : Addr) (u : Value), w.cell? a = some u → ∀ X, (w.alloc X).cell? a = some u := fun a u h X => cell_later ((Below.refl w.heap.size w).alloc (Nat.le_refl _) _) h
  have h0' := hlt _ _ h0
  have h1' := hlt _ _ h1
  have c0' := hlt _ _ c0
  have c1' := hlt _ _ c1
  have c2' := hlt _ _ c2
  have c3' := hlt _ _ c3
  have c4' := hlt _ _ c4
  have c5' := hlt _ _ c5
  have c6' := hlt _ _ c6
  have c7' := hlt _ _ c7
  clear hlt
  go_upto_region 1 with fail
  go_region
  go_wp2
  exact bodyPost_ret (results_cell_row rfl _ _ w.heap.size 32 m.arr (0, 0) _ rfl (heap_alloc_new w _) Ybaf.underlying32 rfl Ybaf.size32) rfl ⟨rfl, ((Below.refl _ _).alloc (Nat.le_refl _) _).drew, fun _ h => (h.alloc _ 32 (fun e => by simp at e)).same rfl⟩

/-- The zero message. -/
def zMsg : Value := .agg #[.int .i64 0, .int .u64 0, .int .u64 0, .slice none 0 0, .int .u64 0, .slice none 0 0, .slice none 0 0, .bool false]
theorem Ybaf.zero32 (w : World) : (zeroValue 32).run Ybaf.prog w = .ok zMsg w := by kernel_rfl

set_option maxHeartbeats 1000000 in
/-- Drop(1). -/
theorem drop_any (base H o : Nat) (v : Value) (hd : Nat) (m : Msg) (ms : List Msg) (w : World) (h0 : w.cell? ⟨H, o, none⟩ = some v) (h1 : w.cell? ⟨H, o + 1, none⟩ = some (.int .i64 hd)) (f1 : w.frozen? ⟨H, o + 1, none⟩ = false) (hq : Qu base w v hd (m :: ms)) (hb : hd + ms.length ≤ 1000000)
    (hne : v.ownBlock ≠ some H) :
    Calls Ybaf.prog 36 #[.pointer (some ⟨H, o, none⟩), .int .i64 1] w fun e w' => e = .returned (.tuple #[]) ∧ ∃ b W, v.ownBlock = some b ∧ Fr base [b] [] w W ∧ Qu base W v (hd + 1) ms ∧ (LogOK base w → LogOK base W) ∧ w' = W.setCell ⟨H, o + 1, none⟩ (.int .i64 (hd + 1 : Nat)) := by
  rcases hq with ⟨_, _, h⟩ | ⟨b, len, c, cur, rfl, h2, h3, h4, h5, h6, h7, h8, h9⟩
  · simp at h
  have hl : len = hd + 1 + ms.length := by simp at h8; omega
  have hfit : hd * 8 + 1 * zMsg.cells.size ≤ cur.size := by simp [zMsg, Value.cells]; omega
  have hone : ∀ u ∈ zMsg.cells.toList, u.oneCell' = true := by simp [zMsg, Value.cells]; decide
  obtain ⟨X, hX⟩ : ∃ X, X = (cur.toList.take (hd * 8) ++ (Builtin.zeroCells zMsg.cells 1).toList ++ cur.toList.drop (hd * 8 + 1 * zMsg.cells.size)).toArray := ⟨_, rfl⟩
  have hcl : ∀ ty, (Builtin.clear_ #[59] ty #[.slice (some ⟨b, hd * 8, none⟩) 1 (c - hd)]).run Ybaf.prog w = .ok (.tuple #[]) (w.setRow b X) :=
    fun ty => by rw [hX]; exact run_clear_row w 59 32 ty zMsg Ybaf.underlying59 Ybaf.zero32 b (hd * 8) 1 (c - hd) cur 32 h3 hfit hone
  have hcl2 : ∀ ty, (Builtin.clear_ #[59] ty #[.slice (some ⟨b, hd * 8, none⟩) 1 (c - hd)]).run Ybaf.prog w.drew = .ok (.tuple #[]) (w.setRow b X).drew :=
    fun ty => by rw [hX]; exact run_clear_row w.drew 59 32 ty zMsg Ybaf.underlying59 Ybaf.zero32 b (hd * 8) 1 (c - hd) cur 32 h3 hfit hone
  have hch : ¬ c = hd := by omega
  have e1 : (hd : Int) + 1 ≤ (c : Int) := by omega
  have e2 : hd + 1 - hd = 1 := by omega
  have hbH : H ≠ b := fun e => hne (by rw [e]; rfl)
  have hXl : X.size = cur.size := by
    rw [hX]
    simp only [List.size_toArray, List.length_append, List.length_take, List.length_drop, Array.length_toList, size_zeroCells]
    simp [zMsg, Value.cells]
    omega
  have hXc : ∀ k, (hd + 1) * 8 ≤ k → X[k]? = cur[k]? := by
    intro k hk
    rw [hX]
    simp only [List.getElem?_toArray, List.append_assoc]
    rw [List.getElem?_append_right (by simp; omega), List.getElem?_append_right (by simp [size_zeroCells, zMsg, Value.cells]; omega), List.getElem?_drop]
    simp only [List.length_take, Array.length_toList, size_zeroCells, Array.getElem?_toList]
    congr 1
    simp [zMsg, Value.cells]
    omega
  have hlog : LogOK base w → LogOK base (w.setRow b X).drew := fun h => (h.setRow h3 (fun e => by simp at e)).same rfl
  have hfr : Fr base [b] [] w (w.setRow b X).drew := ((Fr.refl _ _ _ _).setRow h3 hXl h2 (.inl (by simp))).drew
  have hqu : Qu base (w.setRow b X).drew (.slice (some ⟨b, 0, none⟩) len c) (hd + 1) ms := by
    refine .inr ⟨b, len, c, X, rfl, h2, setRow_heap w b _ _ _ _ h3, by omega, h5, h6, by omega, by omega, fun i hi j hj => ?_⟩
    rw [hXc _ (by omega)]
    have := h9 (i + 1) (by simp; omega) j hj
    rw [show hd + 1 + i = hd + (i + 1) from by omega, this]
    simp
  have g1 : (w.setRow b X).drew.cell? ⟨H, o + 1, none⟩ = some (.int .i64 hd) := (World.cell?_of_block (a := ⟨H, o + 1, none⟩) (setRow_other w b H X hbH)).trans h1
  have gf : (w.setRow b X).drew.frozen? ⟨H, o + 1, none⟩ = false := (World.frozen?_of_block (a := ⟨H, o + 1, none⟩) (setRow_other w b H X hbH)).trans f1
  have HP : Hid (Fr base [b] [] w (w.setRow b X).drew ∧ Qu base (w.setRow b X).drew (.slice (some ⟨b, 0, none⟩) len c) (hd + 1) ms ∧ (LogOK base w → LogOK base (w.setRow b X).drew)) := ⟨hfr, hqu, hlog⟩
  clear hX hXc hXl hlog hfr hqu h9
  go_enter Ybaf.func36, Ybaf.ntmps36
  go_wp2
  go_region
  generalize (w.setRow b X).drew = W at g1 gf HP ⊢
  go_wp2
  go_end0
  exact ⟨rfl, b, W, rfl, HP.out.1, HP.out.2.1, HP.out.2.2, by congr 2⟩

end Go.Proofs.YbulkbobqFmt
