/-
  The callback: it appends sender and number to the log.
-/
import Derived.Test.YbulkbobqFmtTiny
namespace Go.Proofs.YbulkbobqFmt
open Go.RowKit

def recCells (r : Nat × Int) : List Value := [.int .i64 r.1, .int .u64 r.2]
/-- The records in a slice of the call's own. -/
def Recs (base : Nat) (w : World) (v : Value) (rs : List (Nat × Int)) : Prop := w.ownsRow base 34 2 v rs.length (rs.map recCells).flatten
theorem owns_same {base : Nat} {e : TypeId} {size n : Nat} {v : Value} {xs : List Value} {w w' : World} (h : w.ownsRow base e size v n xs) (he : ∀ g, v.ownBlock = some g → w'.heap[g]? = w.heap[g]?) : w'.ownsRow base e size v n xs := by
  obtain ⟨h1, h2⟩ := h
  refine ⟨h1, ?_⟩
  rcases h2 with h2 | ⟨g, cap, cur, rfl, a, b, c⟩
  · exact .inl h2
  · exact .inr ⟨g, cap, cur, rfl, a, (he g rfl).trans b, c⟩
theorem owns_block {base : Nat} {e : TypeId} {size n : Nat} {v : Value} {xs : List Value} {w : World} (h : w.ownsRow base e size v n xs) (g : Nat) (hg : v.ownBlock = some g) : base ≤ g ∧ ∃ cur : Array Value, w.heap[g]? = some (.cells cur e (0, 0)) := by
  rcases h.2 with ⟨rfl, _⟩ | ⟨g', cap, cur, rfl, a, b, c⟩
  · simp [Value.ownBlock] at hg
  · simp [Value.ownBlock] at hg
    subst hg
    exact ⟨a, cur, b⟩

/-- The variable that the callback captures, and its log; beside it the records that are wanted. -/
def Cb (base : Nat) (w : World) (C : Nat) (rs : List (Nat × Int)) (u : Value) (ws : List (Nat × Int)) : Prop :=
  ∃ v, w.heap[C]? = some (.cells #[v] 25 (0, 0)) ∧ Recs base w v rs ∧ base ≤ C ∧ Recs base w u ws ∧ ∀ g, u.ownBlock = some g → v.ownBlock ≠ some g

theorem Cb.fr {base C : Nat} {w w' : World} {rs ws : List (Nat × Int)} {u : Value} {S T : List Nat} (h : Cb base w C rs u ws) (hf : Fr base S T w w') (h25 : 25 ∉ T) (h34 : 34 ∉ T)
    (hS : ∀ k, k ∈ S → ∃ (cur : Array Value) (t : TypeId) (fr : Nat × Nat), w.heap[k]? = some (.cells cur t fr) ∧ t ≠ 34 ∧ t ≠ 25) : Cb base w' C rs u ws := by
  obtain ⟨v, h1, h2, h3, h4, h5⟩ := h
  have hk : ∀ (v : Value) (rs : List (Nat × Int)), Recs base w v rs → Recs base w' v rs := by
    intro v rs hr
    refine owns_same hr fun g hg => ?_
    obtain ⟨_, cur, hc⟩ := owns_block hr g hg
    refine (hf.same hc (fun hk => ?_) h34).trans hc.symm
    obtain ⟨c, t, f, e, n, _⟩ := hS g hk
    rw [hc] at e
    simp at e
    exact n e.2.1.symm
  refine ⟨v, hf.same h1 (fun hk => ?_) h25, hk v rs h2, h3, hk u ws h4, h5⟩
  obtain ⟨c, t, f, e, _, n⟩ := hS C hk
  rw [h1] at e
  simp at e
  exact n e.2.1.symm

theorem Ybaf.info34 : (Ybaf.prog.info? 34).map (fun i => (i.zero, i.size, i.bytes)) = some (some (.agg #[.int .i64 0, .int .u64 0]), 2, 16) := by kernel_rfl

/-- What the callback says. -/
def CbPost (base C : Nat) (rs : List (Nat × Int)) (u : Value) (ws : List (Nat × Int)) (m : Msg) (w : World) (e : Ending) (w' : World) : Prop :=
  e = .returned (.tuple #[]) ∧ Cb base w' C (rs ++ [(m.p, m.q)]) u ws ∧ Fr base [C] [34] w w' ∧ (LogOK base w → LogOK base w')

set_option maxHeartbeats 1000000 in
theorem cb14_any (base C : Nat) (rs : List (Nat × Int)) (u : Value) (ws : List (Nat × Int)) (m : Msg) (w : World) (hc : Cb base w C rs u ws) (hl : rs.length ≤ 1000000) :
    Calls Ybaf.prog 14 #[.agg m.arr, .pointer (some ⟨C, 0, none⟩)] w (CbPost base C rs u ws m w) := by
  obtain ⟨i0, hi, hz, hz1, hz2⟩ := info_split Ybaf.info34
  obtain ⟨v, hg, hr, hbC, hu, hdis⟩ := hc
  have hCl : C < w.heap.size := (Array.getElem?_eq_some_iff.1 hg).1
  unfold Msg.arr msgA
  go_enter Ybaf.func14, Ybaf.ntmps14
  go_upto_region 1 with fail
  obtain ⟨V, hV⟩ : ∃ V, V = w.alloc (.cells #[.int .i64 m.p, .int .u64 m.q, .int .u64 m.t, .slice m.e m.ml m.ml, .int .u64 0, .slice none 0 0, .slice none 0 0, .bool false] 32) := ⟨_, rfl⟩
  rw [← hV]
  have kC : V.heap[C]? = some (.cells #[v] 25 (0, 0)) := by rw [hV]; exact (Below.heap_alloc _ _ _ hCl).trans hg
  have kc : V.cell? ⟨C, 0, none⟩ = some v := by simp [World.cell?, kC]
  have r0 : V.cell? ⟨w.heap.size, 0, none⟩ = some (.int .i64 m.p) := by rw [hV]; simp
  have r1 : V.cell? ⟨w.heap.size, 1, none⟩ = some (.int .u64 m.q) := by rw [hV]; simp
  have kO : V.ownsRow base 34 2 v rs.length (rs.map recCells).flatten := by rw [hV]; exact World.ownsRow.alloc hr _
  have kU : V.ownsRow base 34 2 u ws.length (ws.map recCells).flatten := by rw [hV]; exact World.ownsRow.alloc hu _
  have kS : w.heap.size ≤ V.heap.size := by rw [hV]; simp
  have kF : Fr base [C] [34] w V := by rw [hV]; exact (Fr.refl _ _ _ _).alloc _
  have kL : LogOK base w → LogOK base V := fun h => by rw [hV]; exact h.alloc _ _ (fun e => by simp at e)
  generalize w.heap.size = R at *
  clear hV kS
  have hbV : base ≤ V.heap.size := by have := (Array.getElem?_eq_some_iff.1 kC).1; omega
  go_wp2_with (first | (at_builtin; refine wpList_append_sure _ rfl (.tmp 3) (.tmp 9) 25 rfl base 34 i0 _ 2 16 Ybaf.underlying25 hi hz hz1 hz2 rfl v rs.length _ rfl (kO.alloc _) _ 1 [.int .i64 m.p, .int .u64 m.q] rfl ⟨rfl, ?s0, .inr ⟨_, _, rfl, World.news_of_block (cs := #[.int .i64 m.p, .int .u64 m.q]) (t := 34) (fr := (0, 0)) (heap_alloc_new V _)⟩⟩ (by omega) (by omega) ?s2 ?_))
  case s0 =>
    intro u hu
    simp at hu
    rcases hu with rfl | rfl <;> rfl
  case s2 => simp; omega
  intro v' w7 g1 g2
  obtain ⟨g, cap, rfl, _, _⟩ := g1.form (by omega)
  have hbg : ∀ k, v.ownBlock = some k → base ≤ k := fun k hk => (kO.lt k hk).1
  have f8 : Fr base v.ownBlock.toList [] V w7 := ((Fr.refl base v.ownBlock.toList [] V).alloc _).moved g2 hbg (.inr fun k hk => by simp [hk])
  have f7 : Fr base [] [34] V w7 := ((Fr.refl base [] [34] V).alloc _).moved g2 hbg (.inl (by simp))
  have h7 : w7.heap[C]? = some (.cells #[v] 25 (0, 0)) := f7.same kC (by simp) (by simp)
  have c7 : w7.cell? ⟨C, 0, none⟩ = some v := by simp [World.cell?, h7]
  have z7 : w7.frozen? ⟨C, 0, none⟩ = false := by simp [World.frozen?, h7]
  have HP : Hid (CbPost base C rs u ws m w (.returned (.tuple #[])) (w7.setCell ⟨C, 0, none⟩ (.slice (some ⟨g, 0, none⟩) (rs.length + 1) cap))) := by
    have hs : Fr base [C] [34] w7 (w7.setCell ⟨C, 0, none⟩ (.slice (some ⟨g, 0, none⟩) (rs.length + 1) cap)) := (Fr.refl _ _ _ _).setCell h7 _ hbC (.inl (by simp))
    have hgC : g ≠ C := by
      rintro rfl
      rcases g1.2 with ⟨h, _⟩ | ⟨g', _, cur, h, _, hg', _⟩
      · simp at h
      · simp only [Value.slice.injEq, Option.some.injEq, Addr.mk.injEq, and_true, true_and] at h
        obtain ⟨rfl, _⟩ := h
        rw [h7] at hg'
        simp at hg'
    refine ⟨rfl, ⟨.slice (some ⟨g, 0, none⟩) (rs.length + 1) cap, ?_, ?_, hbC, ?_, ?_⟩, (kF.trans (f7.wider (by simp) (by simp))).trans hs, fun h => ?_⟩
    · rw [setCell_eq_setRow w7 C 0 _ 25 (0, 0) _ h7, setRow_heap w7 C _ _ _ _ h7]
      simp
    · have g3 := g1.kept (w' := w7.setCell ⟨C, 0, none⟩ (.slice (some ⟨g, 0, none⟩) (rs.length + 1) cap)) (row := some C) ⟨rfl, rfl, rfl, by simp [World.setCell], fun k _ hk => Below.heap_setCell _ _ _ _ (fun e => hk (by rw [e]))⟩ (.inr (by simp [Value.ownBlock]; exact hgC))
      unfold Recs
      simpa [recCells] using g3
    · refine owns_same kU fun k hk => ?_
      obtain ⟨_, cu, hc⟩ := owns_block kU k hk
      have hkC : k ≠ C := by rintro rfl; rw [kC] at hc; simp at hc
      refine (Below.heap_setCell _ _ _ _ hkC).trans ((f8.same hc ?_ (by simp)).trans hc.symm)
      simpa using hdis k hk
    · intro k hk hk2
      simp only [Value.ownBlock, Option.some.injEq] at hk2
      subst hk2
      obtain ⟨_, cu, hc⟩ := owns_block kU g hk
      rcases g2 with ⟨h, _⟩ | ⟨k, n, n', cp, _, _, h1, h2, _⟩ | ⟨n', cp, _, h1, _⟩
      · exact hdis g hk (by rw [← h]; rfl)
      · simp only [Value.slice.injEq, Option.some.injEq, Addr.mk.injEq, and_true] at h2
        exact hdis g hk (by rw [h1, h2.1]; rfl)
      · simp only [Value.slice.injEq, Option.some.injEq, Addr.mk.injEq, and_true] at h1
        have := (Array.getElem?_eq_some_iff.1 hc).1
        simp at h1
        omega
    · exact (((kL h).alloc _ _ (fun e => by simp at e)).moved g2 (fun e => by simp at e) (fun e => by simp at e) (fun e => by simp at e) (fun e => by simp at e)).setCell h7 _ (fun e => by simp at e)
  clear g1 g2 f7 f8 h7
  go_wp2
  go_end0
  exact HP.out

set_option maxHeartbeats 1000000 in
theorem cb6_any (base C : Nat) (rs : List (Nat × Int)) (u : Value) (ws : List (Nat × Int)) (m : Msg) (w : World) (hc : Cb base w C rs u ws) (hl : rs.length ≤ 1000000) :
    Calls Ybaf.prog 6 #[.agg m.arr, .pointer (some ⟨C, 0, none⟩)] w (CbPost base C rs u ws m w) := by
  obtain ⟨i0, hi, hz, hz1, hz2⟩ := info_split Ybaf.info34
  obtain ⟨v, hg, hr, hbC, hu, hdis⟩ := hc
  have hCl : C < w.heap.size := (Array.getElem?_eq_some_iff.1 hg).1
  unfold Msg.arr msgA
  go_enter Ybaf.func6, Ybaf.ntmps6
  go_upto_region 1 with fail
  obtain ⟨V, hV⟩ : ∃ V, V = w.alloc (.cells #[.int .i64 m.p, .int .u64 m.q, .int .u64 m.t, .slice m.e m.ml m.ml, .int .u64 0, .slice none 0 0, .slice none 0 0, .bool false] 32) := ⟨_, rfl⟩
  rw [← hV]
  have kC : V.heap[C]? = some (.cells #[v] 25 (0, 0)) := by rw [hV]; exact (Below.heap_alloc _ _ _ hCl).trans hg
  have kc : V.cell? ⟨C, 0, none⟩ = some v := by simp [World.cell?, kC]
  have r0 : V.cell? ⟨w.heap.size, 0, none⟩ = some (.int .i64 m.p) := by rw [hV]; simp
  have r1 : V.cell? ⟨w.heap.size, 1, none⟩ = some (.int .u64 m.q) := by rw [hV]; simp
  have kO : V.ownsRow base 34 2 v rs.length (rs.map recCells).flatten := by rw [hV]; exact World.ownsRow.alloc hr _
  have kU : V.ownsRow base 34 2 u ws.length (ws.map recCells).flatten := by rw [hV]; exact World.ownsRow.alloc hu _
  have kS : w.heap.size ≤ V.heap.size := by rw [hV]; simp
  have kF : Fr base [C] [34] w V := by rw [hV]; exact (Fr.refl _ _ _ _).alloc _
  have kL : LogOK base w → LogOK base V := fun h => by rw [hV]; exact h.alloc _ _ (fun e => by simp at e)
  generalize w.heap.size = R at *
  clear hV kS
  have hbV : base ≤ V.heap.size := by have := (Array.getElem?_eq_some_iff.1 kC).1; omega
  go_wp2_with (first | (at_builtin; refine wpList_append_sure _ rfl (.tmp 3) (.tmp 9) 25 rfl base 34 i0 _ 2 16 Ybaf.underlying25 hi hz hz1 hz2 rfl v rs.length _ rfl (kO.alloc _) _ 1 [.int .i64 m.p, .int .u64 m.q] rfl ⟨rfl, ?s0, .inr ⟨_, _, rfl, World.news_of_block (cs := #[.int .i64 m.p, .int .u64 m.q]) (t := 34) (fr := (0, 0)) (heap_alloc_new V _)⟩⟩ (by omega) (by omega) ?s2 ?_))
  case s0 =>
    intro u hu
    simp at hu
    rcases hu with rfl | rfl <;> rfl
  case s2 => simp; omega
  intro v' w7 g1 g2
  obtain ⟨g, cap, rfl, _, _⟩ := g1.form (by omega)
  have hbg : ∀ k, v.ownBlock = some k → base ≤ k := fun k hk => (kO.lt k hk).1
  have f8 : Fr base v.ownBlock.toList [] V w7 := ((Fr.refl base v.ownBlock.toList [] V).alloc _).moved g2 hbg (.inr fun k hk => by simp [hk])
  have f7 : Fr base [] [34] V w7 := ((Fr.refl base [] [34] V).alloc _).moved g2 hbg (.inl (by simp))
  have h7 : w7.heap[C]? = some (.cells #[v] 25 (0, 0)) := f7.same kC (by simp) (by simp)
  have c7 : w7.cell? ⟨C, 0, none⟩ = some v := by simp [World.cell?, h7]
  have z7 : w7.frozen? ⟨C, 0, none⟩ = false := by simp [World.frozen?, h7]
  have HP : Hid (CbPost base C rs u ws m w (.returned (.tuple #[])) (w7.setCell ⟨C, 0, none⟩ (.slice (some ⟨g, 0, none⟩) (rs.length + 1) cap))) := by
    have hs : Fr base [C] [34] w7 (w7.setCell ⟨C, 0, none⟩ (.slice (some ⟨g, 0, none⟩) (rs.length + 1) cap)) := (Fr.refl _ _ _ _).setCell h7 _ hbC (.inl (by simp))
    have hgC : g ≠ C := by
      rintro rfl
      rcases g1.2 with ⟨h, _⟩ | ⟨g', _, cur, h, _, hg', _⟩
      · simp at h
      · simp only [Value.slice.injEq, Option.some.injEq, Addr.mk.injEq, and_true, true_and] at h
        obtain ⟨rfl, _⟩ := h
        rw [h7] at hg'
        simp at hg'
    refine ⟨rfl, ⟨.slice (some ⟨g, 0, none⟩) (rs.length + 1) cap, ?_, ?_, hbC, ?_, ?_⟩, (kF.trans (f7.wider (by simp) (by simp))).trans hs, fun h => ?_⟩
    · rw [setCell_eq_setRow w7 C 0 _ 25 (0, 0) _ h7, setRow_heap w7 C _ _ _ _ h7]
      simp
    · have g3 := g1.kept (w' := w7.setCell ⟨C, 0, none⟩ (.slice (some ⟨g, 0, none⟩) (rs.length + 1) cap)) (row := some C) ⟨rfl, rfl, rfl, by simp [World.setCell], fun k _ hk => Below.heap_setCell _ _ _ _ (fun e => hk (by rw [e]))⟩ (.inr (by simp [Value.ownBlock]; exact hgC))
      unfold Recs
      simpa [recCells] using g3
    · refine owns_same kU fun k hk => ?_
      obtain ⟨_, cu, hc⟩ := owns_block kU k hk
      have hkC : k ≠ C := by rintro rfl; rw [kC] at hc; simp at hc
      refine (Below.heap_setCell _ _ _ _ hkC).trans ((f8.same hc ?_ (by simp)).trans hc.symm)
      simpa using hdis k hk
    · intro k hk hk2
      simp only [Value.ownBlock, Option.some.injEq] at hk2
      subst hk2
      obtain ⟨_, cu, hc⟩ := owns_block kU g hk
      rcases g2 with ⟨h, _⟩ | ⟨k, n, n', cp, _, _, h1, h2, _⟩ | ⟨n', cp, _, h1, _⟩
      · exact hdis g hk (by rw [← h]; rfl)
      · simp only [Value.slice.injEq, Option.some.injEq, Addr.mk.injEq, and_true] at h2
        exact hdis g hk (by rw [h1, h2.1]; rfl)
      · simp only [Value.slice.injEq, Option.some.injEq, Addr.mk.injEq, and_true] at h1
        have := (Array.getElem?_eq_some_iff.1 hc).1
        simp at h1
        omega
    · exact (((kL h).alloc _ _ (fun e => by simp at e)).moved g2 (fun e => by simp at e) (fun e => by simp at e) (fun e => by simp at e) (fun e => by simp at e)).setCell h7 _ (fun e => by simp at e)
  clear g1 g2 f7 f8 h7
  go_wp2
  go_end0
  exact HP.out

end Go.Proofs.YbulkbobqFmt
