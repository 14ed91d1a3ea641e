/- The state of the subscriptions: the struct's cells, the map of hosts (O h v: host h names viewer v), and its steps. -/
import Derived.Test.YbulkbofkSmall
namespace Go.Proofs.Ybulkbofk
open Go.RowKit

def obf (ob : Nat → Option Nat) : Nat → Option Value := fun h => (ob h).map fun b => .map (some b)
def inf (O : Nat → Nat → Bool) (h : Nat) : Nat → Option Value := fun v => if O h v then some (.bool true) else none
def updN (f : Nat → Option Nat) (i : Nat) (v : Option Nat) : Nat → Option Nat := fun j => if j = i then v else f j
def cut1 (O : Nat → Nat → Bool) (h v : Nat) : Nat → Nat → Bool := fun h' v' => O h' v' && !(h' == h && v' == v)
def add1 (O : Nat → Nat → Bool) (h v : Nat) : Nat → Nat → Bool := fun h' v' => O h' v' || (h' == h && v' == v)

structure OS (w : World) (B bv bo bw : Nat) (O : Nat → Nat → Bool) (ob : Nat → Option Nat) : Prop where
  map : MapT w bo 3 hv (obf ob)
  inn : ∀ h b, h < 3 → ob h = some b → MapT w b 4 vv (inf O h) ∧ (∃ v, v < 4 ∧ O h v = true) ∧ B ≤ b ∧ b ≠ bv ∧ b ≠ bo ∧ b ≠ bw
  inj : ∀ h h' b, h < 3 → h' < 3 → ob h = some b → ob h' = some b → h = h'
  non : ∀ h v, h < 3 → v < 4 → ob h = none → O h v = false

theorem turned_heap {w w' : World} {b : Nat} (h : w.mapTurned w' b) {i : Nat} (hi : i ≠ b) : w'.heap[i]? = w.heap[i]? := by
  obtain ⟨es, clock, es', clock', hb, rfl⟩ := h
  exact Go.ChangeMaps.heap_setBlock_other hb _ hi
theorem turned_size {w w' : World} {b : Nat} (h : w.mapTurned w' b) : w'.heap.size = w.heap.size := by
  obtain ⟨es, clock, es', clock', hb, rfl⟩ := h
  simp [Go.ChangeMaps.setBlock]
theorem turned_below {w w' : World} {b B : Nat} (h : w.mapTurned w' b) (hb : B ≤ b) : Below B w w' :=
  have g := h.grown
  ⟨g.os, g.tape, g.output, g.size, fun i hi => turned_heap h (by omega)⟩

theorem OS.kept {w w' : World} {B bv bo bw : Nat} {O : Nat → Nat → Bool} {ob : Nat → Option Nat} (h : OS w B bv bo bw O ob) (h1 : w'.heap[bo]? = w.heap[bo]?) (h2 : ∀ k b, k < 3 → ob k = some b → w'.heap[b]? = w.heap[b]?) : OS w' B bv bo bw O ob :=
  ⟨h.map.kept h1, fun k b hk hb => ⟨(h.inn k b hk hb).1.kept (h2 k b hk hb), (h.inn k b hk hb).2⟩, h.inj, h.non⟩

theorem OS.congr {w : World} {B bv bo bw : Nat} {O O' : Nat → Nat → Bool} {ob : Nat → Option Nat} (h : OS w B bv bo bw O ob) (e : ∀ k v, k < 3 → v < 4 → O k v = O' k v) : OS w B bv bo bw O' ob :=
  ⟨h.map, fun k b hk hb => by
    obtain ⟨m, ⟨v, hv, hO⟩, r⟩ := h.inn k b hk hb
    exact ⟨m.congr (fun i hi => by unfold inf; rw [e k i hk hi]), ⟨v, hv, by rw [← e k v hk hv]; exact hO⟩, r⟩, h.inj, fun k v hk hv hn => by rw [← e k v hk hv]; exact h.non k v hk hv hn⟩

theorem cnt_pos {N : Nat} {f : Nat → Option Value} : cntT N f ≠ 0 ↔ ∃ i, i < N ∧ (f i).isSome = true := by
  unfold cntT
  rw [Ne, List.length_eq_zero_iff, List.filter_eq_nil_iff]
  constructor
  · intro h
    apply Classical.byContradiction
    intro hn
    apply h
    intro a ha
    intro hs
    exact hn ⟨a, List.mem_range.1 ha, hs⟩
  · rintro ⟨i, hi, hs⟩ h
    exact h i (List.mem_range.2 hi) hs

section
variable {w w1 w2 : World} {B bv bo bw : Nat} {O : Nat → Nat → Bool} {ob : Nat → Option Nat} {h v b : Nat}

theorem inf_cut_same (O : Nat → Nat → Bool) (h v : Nat) (i : Nat) : upd (inf O h) v none i = inf (cut1 O h v) h i := by
  unfold upd inf cut1
  by_cases e : i = v
  · simp [e]
  · simp [e]
theorem inf_cut_other (O : Nat → Nat → Bool) (h v : Nat) {k : Nat} (hk : k ≠ h) (i : Nat) : inf O k i = inf (cut1 O h v) k i := by
  unfold inf cut1
  simp [hk]
theorem inf_add_same (O : Nat → Nat → Bool) (h v : Nat) (i : Nat) : upd (inf O h) v (some (.bool true)) i = inf (add1 O h v) h i := by
  unfold upd inf add1
  by_cases e : i = v
  · simp [e]
  · simp [e]
theorem inf_add_other (O : Nat → Nat → Bool) (h v : Nat) {k : Nat} (hk : k ≠ h) (i : Nat) : inf O k i = inf (add1 O h v) k i := by
  unfold inf add1
  simp [hk]

/-- The inner map has lost v and is not empty. -/
theorem OS.drop1 (s : OS w B bv bo bw O ob) (hh : h < 3) (hb : ob h = some b) (ht : w.mapTurned w1 b) (hm : MapT w1 b 4 vv (upd (inf O h) v none)) (hc : cntT 4 (upd (inf O h) v none) ≠ 0) : OS w1 B bv bo bw (cut1 O h v) ob := by
  have i0 := s.inn h b hh hb
  refine ⟨s.map.kept (turned_heap ht (by have := i0.2.2; omega)), fun k b' hk hb' => ?_, s.inj, fun k u hk hu hn => by unfold cut1; rw [s.non k u hk hu hn]; rfl⟩
  by_cases e : k = h
  · subst e
    rw [hb] at hb'
    cases hb'
    refine ⟨hm.congr (fun i _ => inf_cut_same O k v i), ?_, i0.2.2⟩
    obtain ⟨i, hi, hs⟩ := cnt_pos.1 hc
    refine ⟨i, hi, ?_⟩
    rw [inf_cut_same] at hs
    unfold inf at hs
    split at hs
    · assumption
    · cases hs
  · obtain ⟨m, ⟨u, hu, hO⟩, r⟩ := s.inn k b' hk hb'
    refine ⟨(m.kept (turned_heap ht (fun eb => e (s.inj k h b hk hh (eb ▸ hb') hb)))).congr (fun i _ => inf_cut_other O h v e i), ⟨u, hu, ?_⟩, r⟩
    unfold cut1
    simp [hO, e]

/-- The inner map has lost v, is empty, and has been struck. -/
theorem OS.drop2 (s : OS w B bv bo bw O ob) (hh : h < 3) (hb : ob h = some b) (ht : w.mapTurned w1 b) (hc : cntT 4 (upd (inf O h) v none) = 0) (ht2 : w1.mapTurned w2 bo) (hm2 : MapT w2 bo 3 hv (upd (obf ob) h none)) : OS w2 B bv bo bw (cut1 O h v) (updN ob h none) := by
  have i0 := s.inn h b hh hb
  refine ⟨hm2.congr (fun i _ => ?_), fun k b' hk hb' => ?_, fun k k' b' hk hk' h1 h2 => ?_, fun k u hk hu hn => ?_⟩
  · unfold upd obf updN
    by_cases e : i = h <;> simp [e]
  · have e : k ≠ h := fun e => by simp [updN, e] at hb'
    simp [updN, e] at hb'
    obtain ⟨m, ⟨u, hu, hO⟩, r⟩ := s.inn k b' hk hb'
    refine ⟨((m.kept (turned_heap ht (fun eb => e (s.inj k h b hk hh (eb ▸ hb') hb)))).kept (turned_heap ht2 r.2.2.1)).congr (fun i _ => inf_cut_other O h v e i), ⟨u, hu, ?_⟩, r⟩
    unfold cut1
    simp [hO, e]
  · have e : k ≠ h := fun e => by simp [updN, e] at h1
    have e' : k' ≠ h := fun e => by simp [updN, e] at h2
    simp [updN, e] at h1
    simp [updN, e'] at h2
    exact s.inj k k' b' hk hk' h1 h2
  · by_cases e : k = h
    · subst e
      cases hO : cut1 O k v k u with
      | false => rfl
      | true =>
        refine absurd hc (cnt_pos.2 ⟨u, hu, ?_⟩)
        rw [inf_cut_same]
        unfold inf
        rw [hO]
        rfl
    · simp [updN, e] at hn
      unfold cut1
      rw [s.non k u hk hu hn]
      rfl

/-- There was no inner map. -/
theorem OS.drop0 (s : OS w B bv bo bw O ob) (hh : h < 3) (hb : ob h = none) (ht2 : w.mapTurned w2 bo) (hm2 : MapT w2 bo 3 hv (upd (obf ob) h none)) : OS w2 B bv bo bw (cut1 O h v) ob := by
  refine OS.congr (O := O) ⟨hm2.congr (fun i _ => ?_), fun k b' hk hb' => ?_, s.inj, s.non⟩ (fun k u hk hu => ?_)
  · unfold upd obf
    by_cases e : i = h <;> simp [e, hb]
  · obtain ⟨m, r⟩ := s.inn k b' hk hb'
    exact ⟨m.kept (turned_heap ht2 r.2.2.2.1), r⟩
  · unfold cut1
    by_cases e : k = h
    · subst e
      rw [s.non k u hk hu hb]
      rfl
    · simp [e]

/-- A viewer is laid into the inner map. -/
theorem OS.put1 (s : OS w B bv bo bw O ob) (hh : h < 3) (hvv : v < 4) (hb : ob h = some b) (ht : w.mapTurned w1 b) (hm : MapT w1 b 4 vv (upd (inf O h) v (some (.bool true)))) : OS w1 B bv bo bw (add1 O h v) ob := by
  have i0 := s.inn h b hh hb
  refine ⟨s.map.kept (turned_heap ht (by have := i0.2.2; omega)), fun k b' hk hb' => ?_, s.inj, fun k u hk hu hn => ?_⟩
  · by_cases e : k = h
    · subst e
      rw [hb] at hb'
      cases hb'
      exact ⟨hm.congr (fun i _ => inf_add_same O k v i), ⟨v, hvv, by simp [add1]⟩, i0.2.2⟩
    · obtain ⟨m, ⟨u, hu, hO⟩, r⟩ := s.inn k b' hk hb'
      refine ⟨(m.kept (turned_heap ht (fun eb => e (s.inj k h b hk hh (eb ▸ hb') hb)))).congr (fun i _ => inf_add_other O h v e i), ⟨u, hu, ?_⟩, r⟩
      unfold add1
      simp [hO]
  · have e : k ≠ h := fun e => by rw [e, hb] at hn; cases hn
    unfold add1
    rw [s.non k u hk hu hn]
    simp [e]

/-- A new inner map, laid into the outer one, then the viewer into it. -/
theorem OS.put0 (s : OS w B bv bo bw O ob) (hh : h < 3) (hvv : v < 4) (hb : ob h = none) (hB : B ≤ w.heap.size) (hbv : bv < w.heap.size) (hbw : bw < w.heap.size) {w0 : World} (hw0 : w0 = w.alloc (.map #[] 0)) (ht : w0.mapTurned w1 bo) (hm : MapT w1 bo 3 hv (upd (obf ob) h (some (.map (some w.heap.size)))))
    (ht2 : w1.mapTurned w2 w.heap.size) (hm2 : MapT w2 w.heap.size 4 vv (upd (inf O h) v (some (.bool true)))) : OS w2 B bv bo bw (add1 O h v) (updN ob h (some w.heap.size)) := by
  have hbo := s.map.lt
  have hk0 : ∀ i, i < w.heap.size → i ≠ bo → w2.heap[i]? = w.heap[i]? := fun i hi hne => by
    rw [turned_heap ht2 (by omega), turned_heap ht hne, hw0]
    exact Below.heap_alloc _ _ _ hi
  refine ⟨(hm.kept (turned_heap ht2 (by omega))).congr (fun i _ => ?_), fun k b' hk hb' => ?_, fun k k' b' hk hk' h1 h2 => ?_, fun k u hk hu hn => ?_⟩
  · unfold upd obf updN
    by_cases e : i = h <;> simp [e]
  · by_cases e : k = h
    · subst e
      simp [updN] at hb'
      subst hb'
      exact ⟨hm2.congr (fun i _ => inf_add_same O k v i), ⟨v, hvv, by simp [add1]⟩, hB, by omega, by omega, by omega⟩
    · simp [updN, e] at hb'
      obtain ⟨m, ⟨u, hu, hO⟩, r⟩ := s.inn k b' hk hb'
      refine ⟨(m.kept (hk0 b' m.lt r.2.2.1)).congr (fun i _ => inf_add_other O h v e i), ⟨u, hu, ?_⟩, r⟩
      unfold add1
      simp [hO]
  · by_cases e : k = h
    · by_cases e' : k' = h
      · rw [e, e']
      · simp [updN, e] at h1
        simp [updN, e'] at h2
        have := (s.inn k' b' hk' h2).1.lt
        omega
    · by_cases e' : k' = h
      · simp [updN, e] at h1
        simp [updN, e'] at h2
        have := (s.inn k b' hk h1).1.lt
        omega
      · simp [updN, e] at h1
        simp [updN, e'] at h2
        exact s.inj k k' b' hk hk' h1 h2
  · have e : k ≠ h := fun e => by simp [updN, e] at hn
    simp [updN, e] at hn
    unfold add1
    rw [s.non k u hk hu hn]
    simp [e]

end

/-- The struct's cells, the map of waiting ones, and where all lies. -/
structure St (w : World) (B bs bv bo bw : Nat) (st : Int) (O : Nat → Nat → Bool) : Prop where
  c : w.heap[bs]? = some (.cells #[.int .i32 st, .int .u32 0, .map (some bv), .map (some bo), .map (some bw)] 82 (0, 0))
  wt : w.heap[bw]? = some (.map #[] 0)
  k : B ≤ bs ∧ B ≤ bv ∧ B ≤ bo ∧ B ≤ bw ∧ bv ≠ bo ∧ bw ≠ bv ∧ bw ≠ bo
  os : ∃ ob, OS w B bv bo bw O ob

theorem St.cells {w : World} {B bs bv bo bw : Nat} {st : Int} {O : Nat → Nat → Bool} (h : St w B bs bv bo bw st O) :
    w.cell? ⟨bs, 0, none⟩ = some (.int .i32 st) ∧ w.cell? ⟨bs, 2, none⟩ = some (.map (some bv)) ∧ w.cell? ⟨bs, 3, none⟩ = some (.map (some bo)) ∧ w.cell? ⟨bs, 4, none⟩ = some (.map (some bw)) ∧ w.frozen? ⟨bs, 0, none⟩ = false := by
  have := h.c
  refine ⟨?_, ?_, ?_, ?_, ?_⟩ <;> simp [World.cell?, World.frozen?, this]

/-- A slice of hosts' names. -/
def SlS (w : World) (B : Nat) (u : Value) (q : List Nat) : Prop :=
  ∃ a c, u = .slice a q.length c ∧ (q ≠ [] → ∃ b, b < B ∧ a = some ⟨b, 0, none⟩ ∧ ∀ j, j < q.length → w.cell? ⟨b, j, none⟩ = some (hv (q.getD j 0)))
theorem SlS.below {w w' : World} {B : Nat} {u : Value} {q : List Nat} (h : SlS w B u q) (hb : Below B w w') : SlS w' B u q := by
  obtain ⟨a, c, rfl, hc⟩ := h
  refine ⟨a, c, rfl, fun hne => ?_⟩
  obtain ⟨b, hbB, rfl, hcell⟩ := hc hne
  refine ⟨b, hbB, rfl, fun j hj => ?_⟩
  exact (hb.cell (p := ⟨b, j, none⟩) hbB).trans (hcell j hj)

end Go.Proofs.Ybulkbofk
