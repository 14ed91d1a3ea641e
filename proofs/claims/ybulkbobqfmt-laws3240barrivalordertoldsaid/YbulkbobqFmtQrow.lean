/-
  The row of the queues.
-/
import Derived.Test.YbulkbobqFmtCb
namespace Go.Proofs.YbulkbobqFmt
open Go.RowKit

/-- The row of queues at H: queue j holds (head, messages). -/
def Qrow (base : Nat) (w : World) (H : Nat) (qs : List (Nat × List Msg)) : Prop :=
  ∃ (cur : Array Value) (vs : Nat → Value), w.heap[H]? = some (.cells cur 61 (0, 0)) ∧ base ≤ H ∧
    (∀ j (h : j < qs.length), cur[j * 2]? = some (vs j) ∧ cur[j * 2 + 1]? = some (.int .i64 qs[j].1) ∧ Qu base w (vs j) qs[j].1 qs[j].2) ∧
    (∀ i j, i < qs.length → j < qs.length → i ≠ j → ∀ g, (vs i).ownBlock = some g → (vs j).ownBlock ≠ some g)

theorem Qu.block {base : Nat} {w : World} {v : Value} {hd : Nat} {ms : List Msg} (h : Qu base w v hd ms) (g : Nat) (hg : v.ownBlock = some g) : base ≤ g ∧ ∃ cur : Array Value, w.heap[g]? = some (.cells cur 32 (0, 0)) := by
  rcases h with ⟨rfl, _⟩ | ⟨b, len, c, cur, rfl, h2, h3, _⟩
  · simp [Value.ownBlock] at hg
  · simp [Value.ownBlock] at hg
    subst hg
    exact ⟨h2, cur, h3⟩

/-- Nothing of the queues has turned. -/
theorem Qrow.fr {base H : Nat} {w w' : World} {qs : List (Nat × List Msg)} {S T : List Nat} (h : Qrow base w H qs) (hf : Fr base S T w w') (hH : H ∉ S) (h61 : 61 ∉ T) (h32 : 32 ∉ T)
    (hS : ∀ g, g ∈ S → ∀ cur : Array Value, w.heap[g]? ≠ some (.cells cur 32 (0, 0))) : Qrow base w' H qs := by
  obtain ⟨cur, vs, h1, h2, h3, h4⟩ := h
  refine ⟨cur, vs, hf.same h1 hH h61, h2, fun j hj => ?_, h4⟩
  obtain ⟨a, b, c⟩ := h3 j hj
  refine ⟨a, b, c.same fun g hg => ?_⟩
  obtain ⟨_, cu, hc⟩ := c.block g hg
  exact (hf.same hc (fun hk => hS g hk cu hc) h32).trans hc.symm

/-- What stands at queue j. -/
theorem Qrow.at {base H : Nat} {w : World} {qs : List (Nat × List Msg)} (h : Qrow base w H qs) (j : Nat) (hj : j < qs.length) :
    ∃ (v : Value) (cur : Array Value), w.heap[H]? = some (.cells cur 61 (0, 0)) ∧ w.cell? ⟨H, j * 2, none⟩ = some v ∧ w.cell? ⟨H, j * 2 + 1, none⟩ = some (.int .i64 qs[j].1) ∧ w.frozen? ⟨H, j * 2 + 1, none⟩ = false ∧ Qu base w v qs[j].1 qs[j].2 ∧ v.ownBlock ≠ some H := by
  obtain ⟨cur, vs, h1, h2, h3, h4⟩ := h
  obtain ⟨a, b, c⟩ := h3 j hj
  refine ⟨vs j, cur, h1, by simp [World.cell?, h1, a], by simp [World.cell?, h1, b], by simp [World.frozen?, h1], c, fun hk => ?_⟩
  obtain ⟨_, cu, hc⟩ := c.block H hk
  rw [h1] at hc
  simp at hc

/-- What stands at queue j, and what a step that turns queue j alone leaves. -/
theorem Qrow.upd {base H : Nat} {w : World} {qs : List (Nat × List Msg)} (h : Qrow base w H qs) (j : Nat) (hj : j < qs.length) :
    ∃ (v : Value) (cur : Array Value), (w.heap[H]? = some (.cells cur 61 (0, 0)) ∧ w.cell? ⟨H, j * 2, none⟩ = some v ∧ w.cell? ⟨H, j * 2 + 1, none⟩ = some (.int .i64 qs[j].1) ∧ w.frozen? ⟨H, j * 2 + 1, none⟩ = false ∧ Qu base w v qs[j].1 qs[j].2 ∧ v.ownBlock ≠ some H) ∧
      ∀ (w' : World) (v' : Value) (hd' : Nat) (ms' : List Msg), Fr base (H :: v.ownBlock.toList) [] w w' → w'.heap[H]? = ((w.setCell ⟨H, j * 2, none⟩ v').setCell ⟨H, j * 2 + 1, none⟩ (.int .i64 hd')).heap[H]? → Qu base w' v' hd' ms' →
        (∀ g, v'.ownBlock = some g → v.ownBlock = some g ∨ w.heap.size ≤ g) → Qrow base w' H (qs.set j (hd', ms')) := by
  obtain ⟨cur, vs, h1, h2, h3, h4⟩ := h
  obtain ⟨a, b, c⟩ := h3 j hj
  refine ⟨vs j, cur, ⟨h1, by simp [World.cell?, h1, a], by simp [World.cell?, h1, b], by simp [World.frozen?, h1], c, fun hk => ?_⟩, fun w' v' hd' ms' hf hH hq hb => ?_⟩
  · obtain ⟨_, cu, hc⟩ := c.block H hk
    rw [h1] at hc
    simp at hc
  · have q1 : (w.setCell ⟨H, j * 2, none⟩ v').heap[H]? = some (.cells (cur.setIfInBounds (j * 2) v') 61 (0, 0)) := by rw [setCell_eq_setRow w H _ cur 61 (0, 0) _ h1, setRow_heap w H _ _ _ _ h1]
    rw [setCell_eq_setRow _ H _ _ 61 (0, 0) _ q1, setRow_heap _ H _ _ _ _ q1] at hH
    have hl : j * 2 + 1 < cur.size := (Array.getElem?_eq_some_iff.1 b).1
    refine ⟨_, fun i => if i = j then v' else vs i, hH, h2, fun i hi => ?_, fun i k hi hk hne g hg => ?_⟩
    · have hi' : i < qs.length := by simpa using hi
      by_cases e : i = j
      · subst e
        simp only [if_pos, List.getElem_set_self]
        refine ⟨?_, ?_, hq⟩
        · rw [Array.getElem?_setIfInBounds_ne (by omega), Array.getElem?_setIfInBounds_self_of_lt (by omega)]
        · rw [Array.getElem?_setIfInBounds_self_of_lt (by simp; omega)]
      · obtain ⟨a', b', c'⟩ := h3 i hi'
        simp only [if_neg e, List.getElem_set_ne (Ne.symm e)]
        refine ⟨?_, ?_, c'.same fun g hg => ?_⟩
        · rw [Array.getElem?_setIfInBounds_ne (by omega), Array.getElem?_setIfInBounds_ne (by omega)]; exact a'
        · rw [Array.getElem?_setIfInBounds_ne (by omega), Array.getElem?_setIfInBounds_ne (by omega)]; exact b'
        · obtain ⟨_, cu, hc⟩ := c'.block g hg
          refine (hf.same hc ?_ (by simp)).trans hc.symm
          simp only [List.mem_cons, Option.mem_toList, not_or]
          refine ⟨?_, fun hk => h4 i j hi' hj e g hg hk⟩
          rintro rfl
          rw [h1] at hc
          simp at hc
    · have hi' : i < qs.length := by simpa using hi
      have hk' : k < qs.length := by simpa using hk
      by_cases e : i = j
      · subst e
        simp only [if_pos] at hg
        simp only [if_neg (Ne.symm hne)]
        intro hk2
        rcases hb g hg with hb | hb
        · exact h4 i k hj hk' hne g hb hk2
        · obtain ⟨_, cu, hc⟩ := (h3 k hk').2.2.block g hk2
          have := (Array.getElem?_eq_some_iff.1 hc).1
          omega
      · simp only [if_neg e] at hg
        by_cases e2 : k = j
        · subst e2
          simp only [if_pos]
          intro hk2
          rcases hb g hk2 with hb | hb
          · exact h4 i k hi' hj hne g hg hb
          · obtain ⟨_, cu, hc⟩ := (h3 i hi').2.2.block g hg
            have := (Array.getElem?_eq_some_iff.1 hc).1
            omega
        · simp only [if_neg e2]
          exact h4 i k hi' hk' hne g hg

end Go.Proofs.YbulkbobqFmt
