/-
  What a call leaves alone ('Fr'); an append that tells all of what it did to the memory.
-/
import Derived.Test.YbulkbobqFmtRows
import Derived.WalkKit
import Derived.WalkSpells
import Derived.WalkLawsBesides
import Derived.Maps.AppendAt
import Derived.Laws.CopyRow
import Derived.Laws.OwnMore
import Derived.Deep.Draws
namespace Go.Proofs.YbulkbobqFmt
open Go.RowKit

/-- From block 'base' on, the blocks of S and the blocks of a type in T may have turned; blocks keep their type and size. -/
structure Fr (base : Nat) (S T : List Nat) (w w' : World) : Prop where
  os : w'.os = w.os
  tape : w'.tape = w.tape
  output : w'.output = w.output
  size : w.heap.size ≤ w'.heap.size
  block : ∀ b, b < w.heap.size → (b < base ∨ (b ∉ S ∧ ∀ (cur : Array Value) (t : TypeId) (fr : Nat × Nat), w.heap[b]? = some (.cells cur t fr) → t ∉ T)) → w'.heap[b]? = w.heap[b]?
  shape : ∀ (b : Nat) (cur : Array Value) (t : TypeId) (fr : Nat × Nat), w.heap[b]? = some (.cells cur t fr) → ∃ cur', w'.heap[b]? = some (.cells cur' t fr) ∧ cur'.size = cur.size

section
variable {base : Nat} {S T : List Nat} {w w' w'' : World}
theorem Fr.refl (base : Nat) (S T : List Nat) (w : World) : Fr base S T w w := ⟨rfl, rfl, rfl, Nat.le_refl _, fun _ _ _ => rfl, fun _ cur _ _ h => ⟨cur, h, rfl⟩⟩
theorem Fr.trans (h : Fr base S T w w') (k : Fr base S T w' w'') : Fr base S T w w'' := by
  refine ⟨k.os.trans h.os, k.tape.trans h.tape, k.output.trans h.output, Nat.le_trans h.size k.size, fun b hb hc => ?_, fun b cur t fr hg => ?_⟩
  · have e := h.block b hb hc
    refine (k.block b (Nat.lt_of_lt_of_le hb h.size) ?_).trans e
    rcases hc with hc | ⟨h1, h2⟩
    · exact .inl hc
    · exact .inr ⟨h1, fun cur t fr hg => h2 cur t fr (e ▸ hg)⟩
  · obtain ⟨c1, g1, s1⟩ := h.shape b cur t fr hg
    obtain ⟨c2, g2, s2⟩ := k.shape b c1 t fr g1
    exact ⟨c2, g2, s2.trans s1⟩
theorem Fr.wider {S' T' : List Nat} (h : Fr base S T w w') (hs : ∀ k, k ∈ S → k ∈ S') (ht : ∀ k, k ∈ T → k ∈ T') : Fr base S' T' w w' :=
  ⟨h.os, h.tape, h.output, h.size, fun b hb hc => h.block b hb (hc.imp id fun ⟨h1, h2⟩ => ⟨fun k => h1 (hs _ k), fun cur t fr hg k => h2 cur t fr hg (ht _ k)⟩), h.shape⟩
theorem Fr.drew (h : Fr base S T w w') : Fr base S T w w'.drew := ⟨h.os, h.tape, h.output, h.size, h.block, h.shape⟩
theorem Fr.drewN (h : Fr base S T w w') (n : Nat) : Fr base S T w (w'.drewN n) := ⟨h.os, h.tape, h.output, h.size, h.block, h.shape⟩
theorem Fr.alloc (h : Fr base S T w w') (o : Obj) : Fr base S T w (w'.alloc o) := by
  refine h.trans ⟨rfl, rfl, rfl, by simp, fun b hb _ => Below.heap_alloc _ _ _ hb, fun b cur t fr hg => ⟨cur, ?_, rfl⟩⟩
  rw [Below.heap_alloc _ _ _ (Array.getElem?_eq_some_iff.1 hg).1]; exact hg
theorem Fr.setRow {g : Nat} {cur cs : Array Value} {t : TypeId} {fr : Nat × Nat} (h : Fr base S T w w') (hg : w'.heap[g]? = some (.cells cur t fr)) (hs : cs.size = cur.size) (hb : base ≤ g) (hin : g ∈ S ∨ t ∈ T) : Fr base S T w (w'.setRow g cs) := by
  refine h.trans ⟨rfl, rfl, rfl, by simp [World.setRow], fun b _ hc => setRow_other w' g b cs ?_, fun b cur' t' fr' hg' => ?_⟩
  · rintro rfl
    rcases hc with hc | ⟨h1, h2⟩
    · omega
    · exact hin.elim h1 (h2 _ _ _ hg)
  · by_cases e : b = g
    · subst e
      rw [hg] at hg'
      cases hg'
      exact ⟨cs, setRow_heap w' b _ _ _ _ hg, hs⟩
    · exact ⟨cur', by rw [setRow_other w' g b cs e]; exact hg', rfl⟩
theorem Fr.setCell {g o : Nat} {cur : Array Value} {t : TypeId} {fr : Nat × Nat} (h : Fr base S T w w') (hg : w'.heap[g]? = some (.cells cur t fr)) (v : Value) (hb : base ≤ g) (hin : g ∈ S ∨ t ∈ T) : Fr base S T w (w'.setCell ⟨g, o, none⟩ v) := by
  rw [setCell_eq_setRow w' g o cur t fr v hg]
  exact h.setRow hg (by simp) hb hin
theorem Fr.same (h : Fr base S T w w') {b : Nat} {cur : Array Value} {t : TypeId} {fr : Nat × Nat} (hg : w.heap[b]? = some (.cells cur t fr)) (hs : b ∉ S) (ht : t ∉ T) : w'.heap[b]? = some (.cells cur t fr) :=
  (h.block b (Array.getElem?_eq_some_iff.1 hg).1 (.inr ⟨hs, fun c t' f' h' => by rw [hg] at h'; cases h'; exact ht⟩)).trans hg
theorem Fr.below (h : Fr base S T w w') {B : Nat} (hB : B ≤ base) (hs : B ≤ w.heap.size) : Below B w w' := ⟨h.os, h.tape, h.output, h.size, fun k hk => h.block k (by omega) (.inl (by omega))⟩
end

/-- How an append went: nothing happened; it wrote into the old row; it made a new row. -/
def Moved (e : TypeId) (xs news : List Value) (z : Array Value) (w w' : World) (v v' : Value) : Prop :=
  (v' = v ∧ w' = w) ∨
  (∃ g n n' cap cur cur', v = .slice (some ⟨g, 0, none⟩) n cap ∧ v' = .slice (some ⟨g, 0, none⟩) n' cap ∧ w.heap[g]? = some (.cells cur e (0, 0)) ∧ cur'.size = cur.size ∧ (∀ u ∈ cur'.toList, u ∈ cur.toList ∨ u ∈ news) ∧ w' = w.setRow g cur') ∨
  (∃ n' cap' cur', v' = .slice (some ⟨w.heap.size, 0, none⟩) n' cap' ∧ (∀ u ∈ cur'.toList, u ∈ xs ∨ u ∈ news ∨ u ∈ z.toList) ∧ w' = w.drew.alloc (.cells cur' e))

/-- A source of an append: m elements. -/
def SrcAt (w : World) (size : Nat) (sv : Value) (m : Nat) (news : List Value) : Prop :=
  news.length = m * size ∧ (∀ u ∈ news, u.oneCell' = true) ∧ ((sv = .slice none 0 0 ∧ m = 0) ∨ ∃ ad c, sv = .slice (some ad) m c ∧ ∀ j u, news[j]? = some u → w.cell? (ad.add j) = some u)

theorem mem_zeroCells (z : Array Value) (n : Nat) : ∀ u ∈ (Builtin.zeroCells z n).toList, u ∈ z.toList := by
  intro u hu
  simp only [Builtin.zeroCells, Array.toList_map, List.mem_map, Array.mem_toList_iff, Array.mem_range] at hu
  obtain ⟨i, hi, rfl⟩ := hu
  have hz : 0 < z.size := by
    rcases Nat.eq_zero_or_pos z.size with h | h
    · rw [h] at hi; simp at hi
    · exact h
  have hlt := Nat.mod_lt i hz
  rw [getElem!_pos z (i % z.size) hlt]
  simp

section
variable {P : Program} (w : World)

theorem run_append_sure (base : Nat) (t ty e : TypeId) (i : TypeInfo) (z : Value) (size bytes : Nat) (ht : P.underlying t = some (.slice e)) (hi : P.info? e = some i) (hz : i.zero = some z)
    (hsize : i.size = size) (hby : i.bytes = bytes) (hzs : z.cells.size = size)
    (v : Value) (n : Nat) (xs : List Value) (hown : w.ownsRow base e size v n xs) (sv : Value) (m : Nat) (news : List Value) (hsrc : SrcAt w size sv m news)
    (hbytes : (n + m) * bytes ≤ 140737488355328) (hlen : n + m ≤ 140737488355328) (hbase : base ≤ w.heap.size) :
    ∃ v' w', (Builtin.append_ #[t, t] ty #[v, sv]).run P w = .ok v' w' ∧ w'.ownsRow base e size v' (n + m) (xs ++ news) ∧ Moved e xs news z.cells w w' v v' := by
  subst hsize
  subst hby
  obtain ⟨hl, h1, hs⟩ := hsrc
  have hlx : (xs ++ news).length = (n + m) * i.size := by rw [List.length_append, hown.1, hl, Nat.add_mul]
  rcases hs with ⟨rfl, rfl⟩ | ⟨ad, c, rfl, hnews⟩
  · obtain rfl : news = [] := List.eq_nil_of_length_eq_zero (by simpa using hl)
    exact ⟨v, w, run_append_owned_none w base t ty e i i.size ht hi v n xs hown, by simpa using hown, .inl ⟨rfl, rfl⟩⟩
  have h63 : n + m ≤ maxLen := by unfold maxLen; omega
  have grown : ∀ old, (w.drew.alloc (.cells (xs.toArray ++ news.toArray ++ Builtin.zeroCells z.cells (grownCap w (n + m) old e - (n + m))) e)).ownsRow base e i.size (.slice (some ⟨w.heap.size, 0, none⟩) (n + m) (grownCap w (n + m) old e)) (n + m) (xs ++ news) := by
    intro old
    have hge := grownCap_ge w (n + m) old e
    refine ⟨hlx, .inr ⟨w.heap.size, _, _, rfl, hbase, heap_alloc_new w.drew _, hge, grownCap_le_maxLen w (n + m) old e h63, ?_, ?_⟩⟩
    · simp only [Array.size_append, List.size_toArray, size_zeroCells, hzs, hown.1, hl, ← Nat.add_mul]
      congr 1
      omega
    · simp only [Array.toList_append, List.append_assoc]
      rw [← List.append_assoc, ← hlx]
      exact List.take_left
  have hmem : ∀ (k : Nat), ∀ u ∈ (xs.toArray ++ news.toArray ++ Builtin.zeroCells z.cells k).toList, u ∈ xs ∨ u ∈ news ∨ u ∈ z.cells.toList := by
    intro k u hu
    simp only [Array.toList_append, List.mem_append] at hu
    rcases hu with (hu | hu) | hu
    · exact .inl hu
    · exact .inr (.inl hu)
    · exact .inr (.inr (mem_zeroCells _ _ u hu))
  rcases id hown.2 with ⟨rfl, rfl⟩ | ⟨g, cap, cur, rfl, hbg, hg, hnc, hcm, hcs, htake⟩
  · obtain rfl : xs = [] := List.eq_nil_of_length_eq_zero (by simpa using hown.1)
    by_cases hm : m = 0
    · subst hm
      obtain rfl : news = [] := List.eq_nil_of_length_eq_zero (by simpa using hl)
      refine ⟨.slice none 0 0, w, ?_, World.ownsRow_nil w base e i.size, .inl ⟨rfl, rfl⟩⟩
      simp [Builtin.append_, run_underlying ht, sizeOf, typeInfo, hi, Builtin.lenOf, Builtin.firstCells, loadCells, loadCellsFrom]
    · have hr := run_append_nil (P := P) w t ty e i z ht hi hz ad m c news hl hnews (by omega) (by omega) (by have hb := hbytes; simp only [Nat.zero_add] at hb; omega)
      have hgr := grown 0
      have hm2 := hmem (grownCap w m 0 e - m)
      simp only [Nat.zero_add, List.nil_append, Array.empty_append] at hgr hm2 ⊢
      exact ⟨_, _, hr, hgr, .inr (.inr ⟨_, _, _, rfl, hm2, rfl⟩)⟩
  · by_cases hroom : n + m ≤ cap
    · have hfit : n * i.size + news.length ≤ cur.size := by rw [hl, hcs, ← Nat.add_mul]; exact Nat.mul_le_mul_right _ hroom
      have hr := run_append_room (P := P) w t ty e i ht hi g n cap cur hg ad m c news hl hnews h1 hroom hfit
      have hsz : (cur.toList.take (n * i.size) ++ news ++ cur.toList.drop (n * i.size + news.length)).toArray.size = cur.size := by
        simp only [List.size_toArray, List.length_append, List.length_take, List.length_drop, Array.length_toList]
        omega
      refine ⟨_, _, hr, ⟨hlx, .inr ⟨g, cap, _, rfl, hbg, setRow_heap w g cur _ e _ hg, hroom, hcm, hsz.trans hcs, ?_⟩⟩, .inr (.inl ⟨g, n, n + m, cap, cur, _, rfl, rfl, hg, hsz, ?_, rfl⟩)⟩
      · rw [htake, ← hlx]
        exact List.take_left
      · intro u hu
        simp only [List.mem_append] at hu
        rcases hu with (hu | hu) | hu
        · exact .inl (List.mem_of_mem_take hu)
        · exact .inr hu
        · exact .inl (List.mem_of_mem_drop hu)
    · have holds : ∀ j u, xs[j]? = some u → w.cell? ((⟨g, 0, none⟩ : Addr).add j) = some u := hown.cells (g := g) rfl
      have hr := run_append_grow (P := P) w t ty e i z ht hi hz ⟨g, 0, none⟩ n cap xs hown.1 holds ad m c news hl hnews (by omega) (by omega) (growslice_fits (by omega) hbytes)
      exact ⟨_, _, hr, grown cap, .inr (.inr ⟨_, _, _, rfl, hmem _, rfl⟩)⟩

/-- At the operation. -/
theorem wp_append_sure {o : Oper} {a : Act} {K : Act → World → Prop} {Q : Exit → Act → World → Prop} (s x : Operand) (t : TypeId)
    (ho : o.op = .call { callee := .builtin .append, args := #[s, x], argTypes := #[t, t] })
    (base : Nat) (e : TypeId) (i : TypeInfo) (z : Value) (size bytes : Nat) (ht : P.underlying t = some (.slice e)) (hi : P.info? e = some i) (hz : i.zero = some z)
    (hsize : i.size = size) (hby : i.bytes = bytes) (hzs : z.cells.size = size)
    (v : Value) (n : Nat) (xs : List Value) (hs : a.eval s = v) (hown : w.ownsRow base e size v n xs) (sv : Value) (m : Nat) (news : List Value) (hx : a.eval x = sv) (hsrc : SrcAt w size sv m news)
    (hbytes : (n + m) * bytes ≤ 140737488355328) (hlen : n + m ≤ 140737488355328) (hbase : base ≤ w.heap.size)
    (h : ∀ v' w', w'.ownsRow base e size v' (n + m) (xs ++ news) → Moved e xs news z.cells w w' v v' → K (a.put o.dst v') w') : o.wp P a w K Q := by
  obtain ⟨v', w', hr, h2, h3⟩ := run_append_sure (P := P) w base t o.type e i z size bytes ht hi hz hsize hby hzs v n xs hown sv m news hsrc hbytes hlen hbase
  unfold Oper.wp execOp
  simp only [ho, resolve, invoke, builtin, Sem.run_bind, Sem.run_pure, Result.andThen_ok, List.map_toArray, List.map_cons, List.map_nil, hs, hx, hr]
  exact h v' w' h2 h3

/-- At the list of a plain region's operations. -/
theorem wpList_append_sure {ops : Array Oper} {rest : List Oper} {o : Oper} {a : Act} {Q : Exit → Act → World → Prop} (hgd : o.guard = none) (s x : Operand) (t : TypeId)
    (ho : o.op = .call { callee := .builtin .append, args := #[s, x], argTypes := #[t, t] })
    (base : Nat) (e : TypeId) (i : TypeInfo) (z : Value) (size bytes : Nat) (ht : P.underlying t = some (.slice e)) (hi : P.info? e = some i) (hz : i.zero = some z)
    (hsize : i.size = size) (hby : i.bytes = bytes) (hzs : z.cells.size = size)
    (v : Value) (n : Nat) (xs : List Value) (hs : a.eval s = v) (hown : w.ownsRow base e size v n xs) (sv : Value) (m : Nat) (news : List Value) (hx : a.eval x = sv) (hsrc : SrcAt w size sv m news)
    (hbytes : (n + m) * bytes ≤ 140737488355328) (hlen : n + m ≤ 140737488355328) (hbase : base ≤ w.heap.size)
    (h : ∀ v' w', w'.ownsRow base e size v' (n + m) (xs ++ news) → Moved e xs news z.cells w w' v v' → wpList P ops Q rest (a.put o.dst v') w') : wpList P ops Q (o :: rest) a w :=
  wpList_plain hgd fun _ hK => wp_append_sure w s x t ho base e i z size bytes ht hi hz hsize hby hzs v n xs hs hown sv m news hx hsrc hbytes hlen hbase fun v' w' h2 h3 => hK _ _ (h v' w' h2 h3)

end

/-- 'clear(s)' on a slice whose elements are of whatever size. -/
theorem run_clear_row {P : Program} (w : World) (t e ty : TypeId) (z : Value) (ht : P.underlying t = some (.slice e)) (hv : ∀ w, (zeroValue e).run P w = .ok z w) (g o n c : Nat) (cur : Array Value) (tt : TypeId) (hg : w.heap[g]? = some (.cells cur tt (0, 0)))
    (hfit : o + n * z.cells.size ≤ cur.size) (h1 : ∀ u ∈ z.cells.toList, u.oneCell' = true) :
    (Builtin.clear_ #[t] ty #[.slice (some ⟨g, o, none⟩) n c]).run P w = .ok (.tuple #[]) (w.setRow g (cur.toList.take o ++ (Builtin.zeroCells z.cells n).toList ++ cur.toList.drop (o + n * z.cells.size)).toArray) := by
  have hsz : (Builtin.zeroCells z.cells n).toList.length = n * z.cells.size := by rw [Array.length_toList, size_zeroCells]
  have hst := run_storeCells_at P g o tt (Builtin.zeroCells z.cells n).toList 0 cur w hg (by rw [hsz]; omega) (fun u hu => h1 u (mem_zeroCells _ _ u hu))
  simp only [Nat.add_zero, hsz] at hst
  cases n with
  | zero =>
    have e0 : (Builtin.zeroCells z.cells 0).toList = [] := List.eq_nil_of_length_eq_zero (by simpa using hsz)
    rw [e0]
    simp only [Nat.zero_mul, Nat.add_zero, List.append_nil, List.take_append_drop, Array.toArray_toList, setRow_self w g cur tt (0, 0) hg]
    simp [Builtin.clear_, run_underlying ht]
  | succ m => simp [Builtin.clear_, run_underlying ht, hv, hst]

/-- What an append leaves alone. -/
theorem Fr.moved {base : Nat} {S T : List Nat} {w0 w w' : World} {e : TypeId} {xs news : List Value} {z : Array Value} {v v' : Value} (h : Fr base S T w0 w) (hm : Moved e xs news z w w' v v')
    (hb : ∀ g, v.ownBlock = some g → base ≤ g) (hin : e ∈ T ∨ ∀ g, v.ownBlock = some g → g ∈ S) : Fr base S T w0 w' := by
  rcases hm with ⟨_, rfl⟩ | ⟨g, n, n', cap, cur, cur', rfl, _, hg, hsz, _, rfl⟩ | ⟨n', cap', cur', _, _, rfl⟩
  · exact h
  · exact h.setRow hg hsz (hb g rfl) (hin.elim .inr fun k => .inl (k g rfl))
  · exact h.drew.alloc _

end Go.Proofs.YbulkbobqFmt
