/-
  The contracts of Pop and Push.
-/
import Derived.Test.YbulkbobqFmtQueue
namespace Go.Proofs.YbulkbobqFmt
open Go.RowKit

theorem setCells_row (g : Nat) (t : TypeId) : ∀ (vs : List Value) (o : Nat) (cur : Array Value) (w : World), w.heap[g]? = some (.cells cur t (0, 0)) → o + vs.length ≤ cur.size →
    w.setCells g o vs = w.setRow g (cur.toList.take o ++ vs ++ cur.toList.drop (o + vs.length)).toArray
  | [], o, cur, w, hg, _ => by
    simp only [World.setCells, List.append_nil, List.length_nil, Nat.add_zero, List.take_append_drop, Array.toArray_toList]
    rw [setRow_self w g cur t (0, 0) hg]
  | v :: vs, o, cur, w, hg, hl => by
    simp only [World.setCells]
    rw [setCell_eq_setRow w g o cur t (0, 0) v hg]
    simp only [List.length_cons] at hl
    rw [setCells_row g t vs (o + 1) (cur.setIfInBounds o v) (w.setRow g (cur.setIfInBounds o v)) (setRow_heap w g _ _ _ _ hg) (by simp; omega), setRow_setRow]
    congr 2
    rw [Array.toList_setIfInBounds, List.set_eq_take_append_cons_drop, if_pos (by simp; omega)]
    have ho : (cur.toList.take o).length = o := by simp; omega
    rw [show o + 1 = (cur.toList.take o).length + 1 from by omega, List.take_length_add_append, show (cur.toList.take o).length + 1 + vs.length = (cur.toList.take o).length + (1 + vs.length) from by omega, List.drop_length_add_append]
    simp only [List.take_succ_cons, List.take_zero, List.append_assoc, List.cons_append, List.nil_append, List.length_cons]
    rw [show 1 + vs.length = vs.length + 1 from by omega, List.drop_succ_cons, List.drop_drop]
    congr 4
    omega

theorem Fr.setRowNew {base : Nat} {S T : List Nat} {w w' : World} {g : Nat} (h : Fr base S T w w') (hg : w.heap.size ≤ g) (cs : Array Value) : Fr base S T w (w'.setRow g cs) := by
  have hne : ∀ b, b < w.heap.size → b ≠ g := fun b hb => by omega
  refine ⟨h.os, h.tape, h.output, by simpa [World.setRow] using h.size, fun b hb hc => (setRow_other w' g b cs (hne b hb)).trans (h.block b hb hc), fun b cur t fr hb => ?_⟩
  obtain ⟨c', g', s'⟩ := h.shape b cur t fr hb
  exact ⟨c', (setRow_other w' g b cs (hne b (Array.getElem?_eq_some_iff.1 hb).1)).trans g', s'⟩

set_option maxHeartbeats 1000000 in
theorem pop_any (base H o : Nat) (v : Value) (hd : Nat) (m : Msg) (ms : List Msg) (w : World) (h0 : w.cell? ⟨H, o, none⟩ = some v) (h1 : w.cell? ⟨H, o + 1, none⟩ = some (.int .i64 hd)) (f1 : w.frozen? ⟨H, o + 1, none⟩ = false) (hq : Qu base w v hd (m :: ms)) (hb : hd + ms.length ≤ 1000000)
    (hne : v.ownBlock ≠ some H) (hbH0 : base ≤ H) (cH : Array Value) (hH61 : w.heap[H]? = some (.cells cH 61 (0, 0))) :
    Calls Ybaf.prog 31 #[.pointer (some ⟨H, o, none⟩)] w fun e w' => e = .returned (.agg m.arr) ∧ ∃ b, v.ownBlock = some b ∧ Fr base [b, H] [] w w' ∧ Qu base w' v (hd + 1) ms ∧ (LogOK base w → LogOK base w') ∧ w'.heap[H]? = (w.setCell ⟨H, o + 1, none⟩ (.int .i64 (hd + 1 : Nat))).heap[H]? := by
  have hHl : H < w.heap.size := World.block_lt_of_cell? _ _ h1
  obtain ⟨b, c, rfl, hbl, hc, hcell⟩ := hq.at 0 (by simp)
  have c0 := hcell 0 (by omega)
  have c1 := hcell 1 (by omega)
  have c2 := hcell 2 (by omega)
  have c3 := hcell 3 (by omega)
  have c4 := hcell 4 (by omega)
  have c5 := hcell 5 (by omega)
  have c6 := hcell 6 (by omega)
  have c7 := hcell 7 (by omega)
  simp [Msg.cells, Msg.arr, msgA] at c0 c1 c2 c3 c4 c5 c6 c7
  have hlt : ∀ (a : Addr) (u : Value), w.cell? a = some u → ∀ X, (w.alloc X).cell? a = some u := fun a u h X => cell_later ((Below.refl w.heap.size w).alloc (Nat.le_refl _) _) h
  have h0' := hlt _ _ h0
  have h1' := hlt _ _ h1
  have c0' := hlt _ _ c0
  have c1' := hlt _ _ c1
  have c2' := hlt _ _ c2
  have c3' := hlt _ _ c3
  have c4' := hlt _ _ c4
  have c5' := hlt _ _ c5
  have c6' := hlt _ _ c6
  have c7' := hlt _ _ c7
  have hlen : hd < hd + (m :: ms).length := by simp
  have hlt2 : ∀ (a : Addr) (u : Value), w.cell? a = some u → ∀ X Y, ((w.alloc X).alloc Y).cell? a = some u := fun a u h X Y => Lib.cell?_alloc_some Y (hlt a u h X)
  have h0'' := hlt2 _ _ h0
  have h1'' := hlt2 _ _ h1
  have c0'' := hlt2 _ _ c0
  have c1'' := hlt2 _ _ c1
  have c2'' := hlt2 _ _ c2
  have c3'' := hlt2 _ _ c3
  have c4'' := hlt2 _ _ c4
  have c5'' := hlt2 _ _ c5
  have c6'' := hlt2 _ _ c6
  have c7'' := hlt2 _ _ c7
  clear hlt2
  generalize hL : (m :: ms).length = L at *
  have hlen2 : (hd : Int) < (hd : Int) + (L : Int) := by omega
  clear hlt hcell
  go_enter Ybaf.func31, Ybaf.ntmps31
  go_upto_region 1 with fail
  go_region
  obtain ⟨V, hV⟩ : ∃ V, V = ((w.alloc (.cells #[.int .i64 0, .int .u64 0, .int .u64 0, .slice none 0 0, .int .u64 0, .slice none 0 0, .slice none 0 0, .bool false] 32)).alloc (.cells #[.int .i64 m.p, .int .u64 m.q, .int .u64 m.t, .slice m.e m.ml m.ml, .int .u64 0, .slice none 0 0, .slice none 0 0, .bool false] 32)).drew := ⟨_, rfl⟩
  rw [← hV]
  have k0 : V.cell? ⟨H, o, none⟩ = some (.slice (some ⟨b, 0, none⟩) (hd + L) c) := by rw [hV]; exact h0'' _ _
  have k1 : V.cell? ⟨H, o + 1, none⟩ = some (.int .i64 hd) := by rw [hV]; exact h1'' _ _
  have hold : ∀ g, g < w.heap.size → V.heap[g]? = w.heap[g]? := fun g hg => by
    rw [hV]
    exact (Below.heap_alloc _ _ _ (by simp; omega)).trans (Below.heap_alloc _ _ _ hg)
  have kf : V.frozen? ⟨H, o + 1, none⟩ = false := (World.frozen?_of_block (a := ⟨H, o + 1, none⟩) (hold H hHl)).trans f1
  have kq : Qu base V (.slice (some ⟨b, 0, none⟩) (hd + L) c) hd (m :: ms) := hq.same fun g hg => hold g (by simp [Value.ownBlock] at hg; omega)
  have kR : V.heap[w.heap.size]? = some (.cells #[.int .i64 0, .int .u64 0, .int .u64 0, .slice none 0 0, .int .u64 0, .slice none 0 0, .slice none 0 0, .bool false] 32 (0, 0)) := by
    rw [hV]
    exact (Below.heap_alloc _ _ _ (by simp)).trans (heap_alloc_new w _)
  have kV : V.heap[w.heap.size + 1]? = some (.cells m.arr 32 (0, 0)) := by
    rw [hV, show w.heap.size + 1 = (w.alloc (.cells #[.int .i64 0, .int .u64 0, .int .u64 0, .slice none 0 0, .int .u64 0, .slice none 0 0, .slice none 0 0, .bool false] 32)).heap.size from by simp]
    exact heap_alloc_new _ _
  have kF : Fr base [] [] w V := by rw [hV]; exact (((Fr.refl _ _ _ _).alloc _).alloc _).drew
  have kL : LogOK base w → LogOK base V := fun h => by rw [hV]; exact ((h.alloc _ _ (fun e => by simp at e)).alloc _ _ (fun e => by simp at e)).same rfl
  clear hV
  clear h0 h1 f1 c0 c1 c2 c3 c4 c5 c6 c7 h0' h1' c0' c1' c2' c3' c4' c5' c6' c7' h0'' h1'' c0'' c1'' c2'' c3'' c4'' c5'' c6'' c7'' hq
  go_wp2_with fail
  refine (drop_any base H o _ hd m ms V k0 k1 kf kq (by omega) hne).mono ?_
  rintro e w1 ⟨rfl, b', W, hb', hfr, hqu, hlog, rfl⟩
  obtain rfl : b = b' := by simpa [Value.ownBlock] using hb'
  have hbH : H ≠ b := fun e => hne (by rw [e]; rfl)
  have hWH : W.heap[H]? = V.heap[H]? := hfr.block H (by have := kF.size; omega) (by
    by_cases e : H < base
    · exact .inl e
    · exact .inr ⟨by simpa using hbH, by simp⟩)
  have hsz := kF.size
  have hother : ∀ g, g ≠ H → (W.setCell ⟨H, o + 1, none⟩ (.int .i64 (hd + 1 : Nat))).heap[g]? = W.heap[g]? := fun g hg => Below.heap_setCell _ _ _ _ hg
  have hnew : ∀ g, w.heap.size ≤ g → g < V.heap.size → (W.setCell ⟨H, o + 1, none⟩ (.int .i64 (hd + 1 : Nat))).heap[g]? = V.heap[g]? := fun g hg hgv => by
    rw [hother g (by omega)]
    refine hfr.block g hgv (.inr ⟨?_, by simp⟩)
    simp
    omega
  have tR := (hnew _ (Nat.le_refl _) (Array.getElem?_eq_some_iff.1 kR).1).trans kR
  have tV := (hnew _ (Nat.le_succ _) (Array.getElem?_eq_some_iff.1 kV).1).trans kV
  have hW61 : W.heap[H]? = some (.cells cH 61 (0, 0)) := hWH.trans ((hold H hHl).trans hH61)
  have t1 : Fr base [b, H] [] w W := (kF.wider (by simp) (by simp)).trans (hfr.wider (by simp) (by simp))
  have t2 : Fr base [b, H] [] w (W.setCell ⟨H, o + 1, none⟩ (.int .i64 (hd + 1 : Nat))) := t1.setCell hW61 _ hbH0 (.inl (by simp))
  have t3 : LogOK base w → LogOK base (W.setCell ⟨H, o + 1, none⟩ (.int .i64 (hd + 1 : Nat))) := fun h => (hlog (kL h)).setCell hW61 _ fun e => by simp at e
  have t4 : (W.setCell ⟨H, o + 1, none⟩ (.int .i64 (hd + 1 : Nat))).heap[H]? = (w.setCell ⟨H, o + 1, none⟩ (.int .i64 (hd + 1 : Nat))).heap[H]? := by
    rw [setCell_eq_setRow W H _ cH 61 (0, 0) _ hW61, setCell_eq_setRow w H _ cH 61 (0, 0) _ hH61, setRow_heap W H _ _ _ _ hW61, setRow_heap w H _ _ _ _ hH61]
  have t5 : Qu base (W.setCell ⟨H, o + 1, none⟩ (.int .i64 (hd + 1 : Nat))) (.slice (some ⟨b, 0, none⟩) (hd + L) c) (hd + 1) ms := hqu.same fun g hg => hother g (by simp [Value.ownBlock] at hg; omega)
  clear hother hnew hfr hqu hlog hWH hW61 t1 k0 k1 kf kq kR kV kF kL hold
  generalize hR : w.heap.size = R at *
  generalize W.setCell ⟨H, o + 1, none⟩ (.int .i64 (hd + 1 : Nat)) = Y at *
  have y0 : Y.cell? ⟨R + 1, 0, none⟩ = some (.int .i64 m.p) := by simp [World.cell?, tV, Msg.arr, msgA]
  have y1 : Y.cell? ⟨R + 1, 1, none⟩ = some (.int .u64 m.q) := by simp [World.cell?, tV, Msg.arr, msgA]
  have y2 : Y.cell? ⟨R + 1, 2, none⟩ = some (.int .u64 m.t) := by simp [World.cell?, tV, Msg.arr, msgA]
  have y3 : Y.cell? ⟨R + 1, 3, none⟩ = some (.slice m.e m.ml m.ml) := by simp [World.cell?, tV, Msg.arr, msgA]
  have y4 : Y.cell? ⟨R + 1, 4, none⟩ = some (.int .u64 0) := by simp [World.cell?, tV, Msg.arr, msgA]
  have y5 : Y.cell? ⟨R + 1, 5, none⟩ = some (.slice none 0 0) := by simp [World.cell?, tV, Msg.arr, msgA]
  have y6 : Y.cell? ⟨R + 1, 6, none⟩ = some (.slice none 0 0) := by simp [World.cell?, tV, Msg.arr, msgA]
  have y7 : Y.cell? ⟨R + 1, 7, none⟩ = some (.bool false) := by simp [World.cell?, tV, Msg.arr, msgA]
  have z0 : Y.cell? ⟨R, 0, none⟩ = some (.int .i64 0) := by simp [World.cell?, tR]
  have z1 : Y.cell? ⟨R, 1, none⟩ = some (.int .u64 0) := by simp [World.cell?, tR]
  have z2 : Y.cell? ⟨R, 2, none⟩ = some (.int .u64 0) := by simp [World.cell?, tR]
  have z3 : Y.cell? ⟨R, 3, none⟩ = some (.slice none 0 0) := by simp [World.cell?, tR]
  have z4 : Y.cell? ⟨R, 4, none⟩ = some (.int .u64 0) := by simp [World.cell?, tR]
  have z5 : Y.cell? ⟨R, 5, none⟩ = some (.slice none 0 0) := by simp [World.cell?, tR]
  have z6 : Y.cell? ⟨R, 6, none⟩ = some (.slice none 0 0) := by simp [World.cell?, tR]
  have z7 : Y.cell? ⟨R, 7, none⟩ = some (.bool false) := by simp [World.cell?, tR]
  have zf : ∀ j, Y.frozen? ⟨R, j, none⟩ = false := fun j => by simp [World.frozen?, tR]
  have hrow : Y.setCells R 0 m.cells = Y.setRow R m.arr := by
    rw [setCells_row R 32 m.cells 0 _ Y tR (by simp [Msg.cells_length])]
    congr 1
  have HP : Hid ((Y.setCells R 0 m.cells).heap[R]? = some (.cells m.arr 32 (0, 0)) ∧ Fr base [b, H] [] w (Y.setCells R 0 m.cells) ∧ Qu base (Y.setCells R 0 m.cells) (.slice (some ⟨b, 0, none⟩) (hd + L) c) (hd + 1) ms ∧ (LogOK base w → LogOK base (Y.setCells R 0 m.cells)) ∧ (Y.setCells R 0 m.cells).heap[H]? = (w.setCell ⟨H, o + 1, none⟩ (.int .i64 (hd + 1 : Nat))).heap[H]?) := by
    rw [hrow]
    exact ⟨setRow_heap Y R _ _ _ _ tR, t2.setRowNew (by omega) _, t5.same fun g hg => setRow_other Y R g _ (by simp [Value.ownBlock] at hg; omega), fun h => (t3 h).setRow tR (fun e => by simp at e), (setRow_other Y R H _ (by omega)).trans t4⟩
  clear t2 t3 t4 t5 hrow tR tV hR
  go_wp2
  exact bodyPost_ret (results_cell_row rfl _ _ R 32 m.arr (0, 0) _ rfl HP.out.1 Ybaf.underlying32 rfl Ybaf.size32) rfl ⟨rfl, b, rfl, HP.out.2⟩

end Go.Proofs.YbulkbobqFmt
