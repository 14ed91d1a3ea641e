/-
  The container's state as a stream, and take over it.
-/
import Derived.Test.YbulkbobcFmtTake2
namespace Go.Proofs.YbulkbobcFmt
open Go.Extern.Stop Go.Stop Go.Extern Go.RowKit

/-- The bytes that are still to come: the rest of the run at hand, then the runs from the k-th on. -/
def stream (xs : List Int) (u : Nat) (xss : List (List Int)) (k : Nat) : List Int := xs.drop u ++ (xss.drop k).flatten

theorem flatten_skip (xss : List (List Int)) (j : Nat) (hj : j < xss.length) : ∀ d k, k + d = j → (∀ i, k ≤ i → i < j → xss.getD i [] = []) → (xss.drop k).flatten = xss.getD j [] ++ (xss.drop (j + 1)).flatten
  | 0, k, hk, _ => by
    obtain rfl : k = j := by omega
    rw [List.drop_eq_getElem_cons hj, List.flatten_cons, List.getD_eq_getElem?_getD, List.getElem?_eq_getElem hj]; rfl
  | d + 1, k, hk, h => by
    have hkl : k < xss.length := by omega
    have h0 := h k (Nat.le_refl _) (by omega)
    rw [List.getD_eq_getElem?_getD, List.getElem?_eq_getElem hkl] at h0
    have h0' : xss[k] = [] := h0
    rw [List.drop_eq_getElem_cons hkl, List.flatten_cons, h0', List.nil_append]
    exact flatten_skip xss j hj d (k + 1) (by omega) fun i h1 h2 => h i (by omega) h2

theorem flatten_none (xss : List (List Int)) : ∀ d k, k + d = xss.length → (∀ i, k ≤ i → i < xss.length → xss.getD i [] = []) → (xss.drop k).flatten = []
  | 0, k, hk, _ => by rw [List.drop_eq_nil_of_le (by omega)]; rfl
  | d + 1, k, hk, h => by
    have hkl : k < xss.length := by omega
    have h0 := h k (Nat.le_refl _) hkl
    rw [List.getD_eq_getElem?_getD, List.getElem?_eq_getElem hkl] at h0
    have h0' : xss[k] = [] := h0
    rw [List.drop_eq_getElem_cons hkl, List.flatten_cons, h0', List.nil_append]
    exact flatten_none xss d (k + 1) (by omega) fun i h1 h2 => h i (by omega) h2

/-- The state of the container and its reader. -/
structure St (B C R g cap : Nat) (ea : Addr) (vs : List Value) (xss : List (List Int)) (w : World) (u k : Nat) (xs : List Int) (size pos : Int) (ds : List Value) : Prop where
  cont : ∃ a c, Cont w C R (.slice a xs.length c) u size pos ds ∧ Run B [C, R] w (.slice a xs.length c) xs
  rd : ∃ calls, Rd w R g xss.length cap k calls
  runs : Runs B [C, R] w g vs xss
  hu : u ≤ xs.length
  hk : k ≤ xss.length
  hm : xss.length ≤ 2000
  hml : ∀ i, (xss.getD i []).length ≤ 2000
  hxl : xs.length ≤ 2000
  hB : B ≤ w.heap.size
  he : w.cell? ⟨1, 0, none⟩ = some (.iface 65 (.pointer (some ea)))
  h1 : 1 < B
  hR1 : R ≠ 1
  hC1 : C ≠ 1
  hCR : C ≠ R
  hCB : C < B
  hRB : R < B

theorem Run.cut {B : Nat} {S : List Nat} {w : World} {b o c : Nat} {xs : List Int} (u m : Nat) (hby : ∀ x ∈ xs, 0 ≤ x ∧ x ≤ 255) (hm : 0 < m) (hum : u + m ≤ xs.length) (hc : xs.length ≤ c) (hbB : b < B) (hbS : b ∉ S)
    (hcell : ∀ i, i < xs.length → w.cell? ⟨b, o + i, none⟩ = some (.int .u8 (xs.getD i 0))) : Run B S w (.slice (some ⟨b, o + u, none⟩) m (c - u)) ((xs.drop u).take m) := by
  have hl : ((xs.drop u).take m).length = m := by simp; omega
  refine ⟨fun x hx => hby x (List.mem_of_mem_drop (List.mem_of_mem_take hx)), .inr ⟨b, o + u, c - u, by rw [hl], by omega, by omega, hbB, hbS, fun i hi => ?_⟩⟩
  have := hcell (u + i) (by omega)
  rw [show o + u + i = o + (u + i) from by omega, this]
  congr 2
  rw [List.getD_eq_getElem?_getD, List.getD_eq_getElem?_getD, List.getElem?_take_of_lt (by omega), List.getElem?_drop]

theorem take_any (F : Interp) {B C R g cap : Nat} {ea : Addr} {vs : List Value} {xss : List (List Int)} {w : World} {u k : Nat} {xs : List Int} {size pos : Int} {ds : List Value} (n : Nat) (hF : F.answers w.tape)
    (h : St B C R g cap ea vs xss w u k xs size pos ds) (hn : 1 ≤ n) (hn8 : n ≤ 8) (hp : 0 ≤ pos) (hp8 : pos ≤ 100) :
    Calls Ybaf.prog 14 #[.pointer (some ⟨C, 0, none⟩), .int .u64 n] w fun e w' => Only w.heap.size [C, R] w w' ∧
      ((∃ p bs u' k' xs', 0 < bs.length ∧ bs.length ≤ n ∧ stream xs u xss k = bs ++ stream xs' u' xss k' ∧ St B C R g cap ea vs xss w' u' k' xs' size (pos + bs.length) ds ∧ Run B [C, R] w' p bs ∧ e = .returned (.tuple #[p, .nilIface])) ∨
       (stream xs u xss k = [] ∧ ∃ x, e = .returned (.tuple #[.slice none 0 0, .iface 59 (.pointer (some x))]))) := by
  obtain ⟨a, c, hC, hrun⟩ := h.cont
  obtain ⟨calls, hR⟩ := h.rd
  have hu := h.hu
  have hB := h.hB
  have hxl := h.hxl
  have h1B := h.h1
  have hk := h.hk
  by_cases hlt : u < xs.length
  · obtain ⟨hby, hrr⟩ := id hrun
    rcases hrr with ⟨h0, _⟩ | ⟨b, o, c2, hv, hlc, _, hbB, hbS, hcell⟩
    · rw [h0] at hlt; simp at hlt
    obtain ⟨rfl, rfl⟩ : a = some ⟨b, o, none⟩ ∧ c = c2 := by simpa using hv
    refine (take_here C R b o xs.length c u n (min n (xs.length - u)) size pos ds w hC hlt hlc hxl hn hn8 rfl hp hp8).mono ?_
    rintro e w' ⟨rfl, ho, hC'⟩
    have ho' : Only w.heap.size [C, R] w w' := ho.wider (by simp)
    have hm0 : min n (xs.length - u) ≤ xs.length - u := Nat.min_le_right _ _
    have hm1 : 0 < min n (xs.length - u) := by omega
    have hm2 : min n (xs.length - u) ≤ n := Nat.min_le_left _ _
    generalize min n (xs.length - u) = m at *
    have hl : ((xs.drop u).take m).length = m := by simp; omega
    refine ⟨ho', .inl ⟨_, (xs.drop u).take m, u + m, k, xs, by omega, by omega, ?_, ?_, (Run.cut u m hby hm1 (by omega) hlc hbB hbS fun i hi => (ho'.cell (p := ⟨b, o + i, none⟩) (by show b < w.heap.size; omega) hbS).trans (hcell i hi)), rfl⟩⟩
    · unfold stream
      rw [← List.append_assoc]
      congr 1
      rw [← List.drop_drop, List.take_append_drop]
    · rw [hl]
      exact ⟨⟨_, c, hC', hrun.only (ho'.mono hB)⟩, ⟨calls, hR.keep (ho.block R (by have := h.hRB; omega) (by simpa using Ne.symm h.hCR))⟩, h.runs.only (ho'.mono hB), by omega, h.hk, h.hm, h.hml, h.hxl, Nat.le_trans hB ho.size,
        (ho'.cell (p := ⟨1, 0, none⟩) (by show 1 < w.heap.size; omega) (by simp [Ne.symm h.hR1, Ne.symm h.hC1])).trans h.he, h.h1, h.hR1, h.hC1, h.hCR, h.hCB, h.hRB⟩
  · obtain rfl : u = xs.length := by omega
    refine (take_next F C R g cap k xs.length c n calls size pos a ea vs xss ds w hF hC hR h.hk h.hm h.hml B hB h.runs h.he h.hR1 h.hC1 h.hCR hn hn8 hp hp8).mono ?_
    rintro e w' ⟨k', calls', ho, hRd, hcases⟩
    refine ⟨ho, ?_⟩
    rcases hcases with ⟨j, b, o, c', m, hj1, hj2, rfl, hE, hm, hpos, hrun', hcell, hbB, hbS, hlc, rfl, hC'⟩ | ⟨hE, x, rfl⟩
    · have hfl := flatten_skip xss j hj2 (j - k) k (by omega) hE
      have hm1 : m ≤ (xss.getD j []).length := by omega
      have hl : (((xss.getD j []).drop 0).take m).length = m := by rw [List.drop_zero, List.length_take]; omega
      refine .inl ⟨_, ((xss.getD j []).drop 0).take m, m, j + 1, xss.getD j [], by omega, by omega, ?_, ?_, ?_, rfl⟩
      · unfold stream
        rw [List.drop_length, List.nil_append, hfl, List.drop_zero, ← List.append_assoc, List.take_append_drop]
      · rw [hl]
        exact ⟨⟨_, c', hC', hrun'.only (ho.mono hB)⟩, ⟨calls', hRd⟩, h.runs.only (ho.mono hB), hm1, hj2, h.hm, h.hml, h.hml j, Nat.le_trans hB ho.size,
          (ho.cell (p := ⟨1, 0, none⟩) (by show 1 < w.heap.size; omega) (by simp [Ne.symm h.hR1, Ne.symm h.hC1])).trans h.he, h.h1, h.hR1, h.hC1, h.hCR, h.hCB, h.hRB⟩
      · have := Run.cut (w := w') (xs := xss.getD j []) (o := o) (c := c') 0 m hrun'.1 (by omega) (by omega) hlc hbB hbS fun i hi => (ho.cell (p := ⟨b, o + i, none⟩) (by show b < w.heap.size; omega) hbS).trans (hcell i hi)
        simpa using this
    · refine .inr ⟨?_, x, rfl⟩
      unfold stream
      rw [List.drop_length, List.nil_append]
      exact flatten_none xss (xss.length - k) k (by omega) hE

end Go.Proofs.YbulkbobcFmt
