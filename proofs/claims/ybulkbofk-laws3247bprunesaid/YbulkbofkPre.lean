/- What law B reads of its arguments, and what its first loops build: arrays of four, slices of hosts' names. -/
import Derived.Test.YbulkbofkPrune
import Derived.OwnWalk
namespace Go.Proofs.Ybulkbofk
open Go.RowKit

/-- One element of what came in. -/
structure ElS (w : World) (g o i x : Nat) (hs : List Nat) (lp : Int) (a : Option Addr) (c : Nat) : Prop where
  c0 : w.cell? ⟨g, o + i * 3, none⟩ = some (.int .u8 x)
  c1 : w.cell? ⟨g, o + i * 3 + 1, none⟩ = some (.slice a hs.length c)
  c2 : w.cell? ⟨g, o + i * 3 + 2, none⟩ = some (.int .i64 lp)
  hx : x ≤ 255
  hlp : -9223372036854775808 ≤ lp ∧ lp ≤ 9223372036854775807
  hc : ∀ j, j < hs.length → ∃ g' o', a = some ⟨g', o', none⟩ ∧ g' < w.heap.size ∧ w.cell? ⟨g', o' + j, none⟩ = some (.int .u8 (hs.getD j 0 : Nat))
  hh : ∀ y ∈ hs, y ≤ 255
  hl : hs.length ≤ 9223372036854775807
def SrcB (w : World) (a : Option Addr) (n : Nat) : Prop := 0 < n → ∃ g o, a = some ⟨g, o, none⟩ ∧ g < w.heap.size ∧ ∀ i, i < n → ∃ x hs lp a' c', ElS w g o i x hs lp a' c'

theorem ElS.below {w w' : World} {g o i x : Nat} {hs : List Nat} {lp : Int} {a : Option Addr} {c : Nat} (h : ElS w g o i x hs lp a c) (hg : g < w.heap.size) (hb : Below w.heap.size w w') : ElS w' g o i x hs lp a c :=
  ⟨(hb.cell (p := ⟨g, o + i * 3, none⟩) hg).trans h.c0, (hb.cell (p := ⟨g, o + i * 3 + 1, none⟩) hg).trans h.c1, (hb.cell (p := ⟨g, o + i * 3 + 2, none⟩) hg).trans h.c2, h.hx, h.hlp, fun j hj => by
    obtain ⟨g', o', e, hl, hc⟩ := h.hc j hj
    exact ⟨g', o', e, Nat.lt_of_lt_of_le hl hb.size, (hb.cell (p := ⟨g', o' + j, none⟩) hl).trans hc⟩, h.hh, h.hl⟩

/-- An array of four. -/
def R4 (w : World) (b t : Nat) (f : Nat → Value) : Prop := w.heap[b]? = some (.cells #[f 0, f 1, f 2, f 3] t (0, 0))
theorem R4.cell {w : World} {b t : Nat} {f : Nat → Value} (h : R4 w b t f) {v : Nat} (hv : v < 4) : w.cell? ⟨b, v, none⟩ = some (f v) ∧ w.frozen? ⟨b, v, none⟩ = false := by
  unfold R4 at h
  obtain rfl | rfl | rfl | rfl : v = 0 ∨ v = 1 ∨ v = 2 ∨ v = 3 := by omega
  all_goals simp [World.cell?, World.frozen?, h]
theorem R4.set {w : World} {b t : Nat} {f : Nat → Value} (h : R4 w b t f) {v : Nat} (hv : v < 4) (x : Value) : R4 (w.setCell ⟨b, v, none⟩ x) b t (fun j => if j = v then x else f j) := by
  unfold R4 at h ⊢
  obtain rfl | rfl | rfl | rfl : v = 0 ∨ v = 1 ∨ v = 2 ∨ v = 3 := by omega
  all_goals
    rw [setCell_eq_setRow w b _ _ t (0, 0) _ h, setRow_heap w b _ _ _ _ h]
    rfl
theorem R4.other {w w' : World} {b t : Nat} {f : Nat → Value} (h : R4 w b t f) (e : w'.heap[b]? = w.heap[b]?) : R4 w' b t f := e.trans h
theorem R4.congr {w : World} {b t : Nat} {f g : Nat → Value} (h : R4 w b t f) (e : ∀ v, v < 4 → f v = g v) : R4 w b t g := by
  unfold R4 at h ⊢
  rw [h, e 0 (by decide), e 1 (by decide), e 2 (by decide), e 3 (by decide)]

/-- A slice of hosts' names, from block L on. -/
def SlL (w : World) (L : Nat) (u : Value) (q : List Nat) : Prop :=
  ∃ a c, u = .slice a q.length c ∧ (q ≠ [] → ∃ b, L ≤ b ∧ b < w.heap.size ∧ a = some ⟨b, 0, none⟩ ∧ ∀ j, j < q.length → w.cell? ⟨b, j, none⟩ = some (hv (q.getD j 0)))
theorem SlL.kept {w w' : World} {L : Nat} {u : Value} {q : List Nat} (h : SlL w L u q) (hs : w.heap.size ≤ w'.heap.size) (he : ∀ i, L ≤ i → i < w.heap.size → w'.heap[i]? = w.heap[i]?) : SlL w' L u q := by
  obtain ⟨a, c, rfl, hc⟩ := h
  refine ⟨a, c, rfl, fun hne => ?_⟩
  obtain ⟨b, h1, h2, rfl, hcell⟩ := hc hne
  exact ⟨b, h1, by omega, rfl, fun j hj => (World.cell?_of_block (a := ⟨b, j, none⟩) (he b h1 h2)).trans (hcell j hj)⟩
theorem SlL.to {w : World} {L : Nat} {u : Value} {q : List Nat} (h : SlL w L u q) : SlS w w.heap.size u q := by
  obtain ⟨a, c, rfl, hc⟩ := h
  refine ⟨a, c, rfl, fun hne => ?_⟩
  obtain ⟨b, h1, h2, rfl, hcell⟩ := hc hne
  exact ⟨b, h2, rfl, hcell⟩
theorem SlL.ofOwns {w : World} {L : Nat} {u : Value} {q : List Nat} (h : w.ownsRow L 9 1 u q.length (q.map hv)) : SlL w L u q := by
  obtain ⟨_, h | ⟨g, cap, cur, rfl, h1, h2, h3, h4, h5, h6⟩⟩ := h
  · obtain ⟨rfl, h0⟩ := h
    exact ⟨none, 0, by rw [h0], fun hne => absurd (List.length_eq_zero_iff.1 h0) hne⟩
  · refine ⟨_, _, rfl, fun _ => ⟨g, h1, (Array.getElem?_eq_some_iff.1 h2).1, rfl, fun j hj => ?_⟩⟩
    have e : cur[j]? = some (hv (q.getD j 0)) := by
      have e1 : (cur.toList.take (q.length * 1))[j]? = some (hv (q.getD j 0)) := by
        rw [h6, List.getElem?_map, List.getElem?_eq_getElem hj, List.getD_eq_getElem?_getD, List.getElem?_eq_getElem hj]
        rfl
      rw [List.getElem?_take_of_lt (by omega), Array.getElem?_toList] at e1
      exact e1
    simp [World.cell?, h2, e]

/-- What the first loops have built. -/
structure P1 (w0 wr : World) (B : Nat) (I : Inp) : Prop where
  h : R4 wr B 62 (fun v => .bool (I.has v))
  s : R4 wr (B + 1) 63 I.sl
  l : R4 wr (B + 2) 64 (fun v => .int .i64 (I.lp v))
  k : ∀ v, v < 4 → SlL wr (B + 3) (I.sl v) (I.Hs v) ∧ (∀ h ∈ I.Hs v, h < 3) ∧ (I.Hs v).length ≤ 256 ∧ -9223372036854775808 ≤ I.lp v ∧ I.lp v ≤ 9223372036854775807
  b : Below B w0 wr
  z : B + 3 ≤ wr.heap.size

def Inp.set (I : Inp) (v : Nat) (q : List Nat) (u : Value) (lp : Int) : Inp :=
  { has := fun j => if j = v then true else I.has j, Hs := fun j => if j = v then q else I.Hs j, sl := fun j => if j = v then u else I.sl j, lp := fun j => if j = v then lp else I.lp j }

theorem P1.kept {w0 wr w' : World} {B : Nat} {I : Inp} (h : P1 w0 wr B I) (hb : Below wr.heap.size wr w') : P1 w0 w' B I :=
  ⟨h.h.other (hb.block _ (by have := h.z; omega)), h.s.other (hb.block _ (by have := h.z; omega)), h.l.other (hb.block _ (by have := h.z; omega)), fun v hv => ⟨(h.k v hv).1.kept hb.size (fun i _ hi => hb.block i hi), (h.k v hv).2⟩,
    h.b.trans (below_le hb (by have := h.z; omega)), Nat.le_trans h.z hb.size⟩

theorem P1.step {w0 wr : World} {B : Nat} {I : Inp} (h : P1 w0 wr B I) {v : Nat} (hv : v < 4) {q : List Nat} {u : Value} {lp : Int} (hu : SlL wr (B + 3) u q) (hq : ∀ h ∈ q, h < 3) (hl : q.length ≤ 256) (hlp : -9223372036854775808 ≤ lp ∧ lp ≤ 9223372036854775807) :
    P1 w0 (((wr.setCell ⟨B, v, none⟩ (.bool true)).setCell ⟨B + 1, v, none⟩ u).setCell ⟨B + 2, v, none⟩ (.int .i64 lp)) B (I.set v q u lp) := by
  have e1 : ∀ (w : World) (b i : Nat) (x : Value), i ≠ b → (w.setCell ⟨b, v, none⟩ x).heap[i]? = w.heap[i]? := fun w b i x hne => Below.heap_setCell _ _ _ _ hne
  have e3 : ∀ i, i ≠ B → i ≠ B + 1 → i ≠ B + 2 → (((wr.setCell ⟨B, v, none⟩ (.bool true)).setCell ⟨B + 1, v, none⟩ u).setCell ⟨B + 2, v, none⟩ (.int .i64 lp)).heap[i]? = wr.heap[i]? := fun i h1 h2 h3 => by
    rw [e1 _ _ _ _ h3, e1 _ _ _ _ h2, e1 _ _ _ _ h1]
  have es : (((wr.setCell ⟨B, v, none⟩ (.bool true)).setCell ⟨B + 1, v, none⟩ u).setCell ⟨B + 2, v, none⟩ (.int .i64 lp)).heap.size = wr.heap.size := by simp
  refine ⟨?_, ?_, ?_, fun j hj => ?_, ((h.b.setCell (Nat.le_refl _) _).setCell (Nat.le_succ _) _).setCell (by show B ≤ B + 2; omega) _, by rw [es]; exact h.z⟩
  · refine (((h.h.set hv (.bool true)).other (e1 _ (B + 1) B _ (by omega))).other (e1 _ (B + 2) B _ (by omega))).congr (fun j _ => ?_)
    unfold Inp.set
    by_cases e : j = v <;> simp [e]
  · refine ((((h.s.other (e1 _ B (B + 1) _ (by omega))).set hv u)).other (e1 _ (B + 2) (B + 1) _ (by omega))).congr (fun j _ => ?_)
    unfold Inp.set
    by_cases e : j = v <;> simp [e]
  · refine (((h.l.other (e1 _ B (B + 2) _ (by omega))).other (e1 _ (B + 1) (B + 2) _ (by omega))).set hv (.int .i64 lp)).congr (fun j _ => ?_)
    unfold Inp.set
    by_cases e : j = v <;> simp [e]
  · have hk : ∀ {u' q'}, SlL wr (B + 3) u' q' → SlL _ (B + 3) u' q' := fun h => h.kept (Nat.le_of_eq es.symm) (fun i hi _ => e3 i (by omega) (by omega) (by omega))
    unfold Inp.set
    by_cases e : j = v
    · simp only [e, if_true]
      exact ⟨hk hu, hq, hl, hlp⟩
    · simp only [e, if_false]
      exact ⟨hk (h.k j hj).1, (h.k j hj).2⟩

theorem P1.start (w : World) : P1 w (((w.alloc (.cells #[.bool false, .bool false, .bool false, .bool false] 62)).alloc (.cells #[.slice none 0 0, .slice none 0 0, .slice none 0 0, .slice none 0 0] 63)).alloc (.cells #[.int .i64 0, .int .i64 0, .int .i64 0, .int .i64 0] 64)) w.heap.size
    { has := fun _ => false, Hs := fun _ => [], sl := fun _ => .slice none 0 0, lp := fun _ => 0 } := by
  refine ⟨?_, ?_, ?_, fun v _ => ⟨⟨none, 0, rfl, fun h => absurd rfl h⟩, by simp, by simp, by simp, by simp⟩, (((Below.refl _ _).alloc (Nat.le_refl _) _).alloc (by simp) _).alloc (by simp; omega) _, by simp⟩
  · unfold R4
    rw [Below.heap_alloc _ _ _ (by simp; omega), Below.heap_alloc _ _ _ (by simp)]
    exact heap_alloc_new w _
  · unfold R4
    rw [Below.heap_alloc _ _ _ (by simp)]
    have := heap_alloc_new (w.alloc (.cells #[.bool false, .bool false, .bool false, .bool false] 62)) (.cells #[.slice none 0 0, .slice none 0 0, .slice none 0 0, .slice none 0 0] 63)
    simpa using this
  · unfold R4
    have := heap_alloc_new ((w.alloc (.cells #[.bool false, .bool false, .bool false, .bool false] 62)).alloc (.cells #[.slice none 0 0, .slice none 0 0, .slice none 0 0, .slice none 0 0] 63)) (.cells #[.int .i64 0, .int .i64 0, .int .i64 0, .int .i64 0] 64)
    simpa using this

end Go.Proofs.Ybulkbofk
