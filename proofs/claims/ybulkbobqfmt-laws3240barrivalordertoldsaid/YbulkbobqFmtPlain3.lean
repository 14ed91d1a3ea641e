/-
  LawS3240BArrivalOrder's plain part.
-/
import Derived.Test.YbulkbobqFmtPlain4
namespace Go.Proofs.YbulkbobqFmt
open Go.RowKit

theorem flatMap_same {α β : Type} {l : List α} {f g : α → List β} (h : ∀ a ∈ l, f a = g a) : l.flatMap f = l.flatMap g := by
  induction l with
  | nil => rfl
  | cons a l ih => rw [List.flatMap_cons, List.flatMap_cons, h a (by simp), ih fun b hb => h b (by simp [hb])]
def Msg.pq (m : Msg) : Nat × Int := (m.p, m.q)
/-- What the records leave as last delivered. -/
def appl (n : Nat) (rs : List (Nat × Int)) : List Int := rs.foldl (fun d r => d.set r.1 r.2) (List.replicate n 0)
theorem appl_snoc (n : Nat) (rs : List (Nat × Int)) (r : Nat × Int) : appl n (rs ++ [r]) = (appl n rs).set r.1 r.2 := by simp [appl]
theorem appl_length (n : Nat) (rs : List (Nat × Int)) : (appl n rs).length = n := by
  unfold appl
  generalize hd : List.replicate n (0 : Int) = d
  have : d.length = n := by rw [← hd]; simp
  clear hd
  induction rs generalizing d with
  | nil => exact this
  | cons r rs ih => exact ih _ (by simpa using this)
/-- The first n places do not hang on how many there are. -/
theorem appl_at (n m : Nat) (rs : List (Nat × Int)) (h : n ≤ m) (j : Nat) (hj : j < n) : (appl n rs).getD j 0 = (appl m rs).getD j 0 := by
  unfold appl
  have key : ∀ (rs : List (Nat × Int)) (d e : List Int), d.length = n → e.length = m → (∀ i, i < n → d.getD i 0 = e.getD i 0) → ∀ i, i < n → (rs.foldl (fun d r => d.set r.1 r.2) d).getD i 0 = (rs.foldl (fun d r => d.set r.1 r.2) e).getD i 0 := by
    intro rs
    induction rs with
    | nil => intro d e _ _ h i hi; exact h i hi
    | cons r rs ih =>
      intro d e hd he h i hi
      refine ih (d.set r.1 r.2) (e.set r.1 r.2) (by simpa using hd) (by simpa using he) (fun i' hi' => ?_) i hi
      have := h i' hi'
      simp only [List.getD_eq_getElem?_getD] at this ⊢
      by_cases e' : r.1 = i'
      · subst e'
        rw [List.getElem?_set_self (by omega), List.getElem?_set_self (by omega)]
      · rw [List.getElem?_set_ne e', List.getElem?_set_ne e']
        exact this
  refine key rs _ _ (by simp) (by simp) (fun i hi => ?_) j hj
  rw [List.getD_eq_getElem?_getD, List.getD_eq_getElem?_getD, List.getElem?_eq_getElem (by simp; omega), List.getElem?_eq_getElem (by simp; omega)]
  simp

/-- No message waits. -/
def NoWait (x : Cx) : Prop := ∀ (σ : PS) (m : Msg), may x σ m = true

/-- Not barred: all has gone. -/
def Gone (n : Nat) (L : List Msg) (σ : PS) : Prop := σ.hold = 0 ∧ σ.qs = List.replicate n (0, []) ∧ σ.rs = L.map Msg.pq ∧ σ.ds = appl n σ.rs
/-- Barred: all is held. -/
def Kept (n : Nat) (L : List Msg) (σ : PS) : Prop := σ.qs.length = n ∧ σ.rs = [] ∧ (∀ j, j < n → σ.q j = (0, L.filter (fun m => m.p == j))) ∧ (∀ j, σ.hs.testBit j = true ↔ j < n ∧ L.filter (fun m => m.p == j) ≠ []) ∧ σ.ds = appl n []

theorem q_replicate (n j : Nat) (σ : PS) (h : σ.qs = List.replicate n (0, [])) : σ.q j = (0, []) := by
  unfold PS.q
  rw [h, List.getD_eq_getElem?_getD]
  by_cases hj : j < n
  · rw [List.getElem?_eq_getElem (by simpa using hj)]; simp
  · rw [List.getElem?_eq_none (by simp; omega)]; rfl

theorem gone_step {x : Cx} {n : Nat} {L : List Msg} {σ : PS} (hx : NoWait x) (h : Gone n L σ) (m : Msg) : Gone n (L ++ [m]) (takeF x false σ m) ∧ Room σ m := by
  obtain ⟨h1, h2, h3, h4⟩ := h
  have hq := q_replicate n m.p σ h2
  have ht : takeF x false σ m = σ.put m := by
    unfold takeF
    rw [if_neg (by rw [hq, hx]; simp), if_pos h1]
  rw [ht]
  refine ⟨⟨h1, h2, ?_, ?_⟩, ?_⟩
  · simp [PS.put, h3, Msg.pq]
  · simp only [PS.put]
    rw [appl_snoc, h4]
  · unfold Room
    rw [hq]
    simp

theorem kept_step {x : Cx} {n : Nat} {L : List Msg} {σ : PS} (h : Kept n L σ) (m : Msg) (hp : m.p < n) (hl : L.length < 2000) : Kept n (L ++ [m]) (takeF x true σ m) ∧ Room σ m := by
  obtain ⟨h1, h2, h3, h4, h5⟩ := h
  have ht : takeF x true σ m = σ.push m := by unfold takeF; rw [if_pos (.inl rfl)]
  rw [ht]
  refine ⟨⟨by simpa [PS.push] using h1, h2, fun j hj => ?_, fun j => ?_, h5⟩, ?_⟩
  · rw [PS.q_eq _ j (by simp [PS.push]; omega)]
    simp only [PS.push]
    by_cases e : m.p = j
    · subst e
      simp only [List.getElem_set_self]
      rw [h3 m.p hp]
      simp
    · rw [List.getElem_set_ne e, ← σ.q_eq j (by omega), h3 j hj]
      simp [e]
  · simp only [PS.push, orBit, Nat.testBit_or, Nat.testBit_two_pow, Bool.or_eq_true, decide_eq_true_eq, h4 j, List.filter_append, ne_eq, List.append_eq_nil_iff, not_and]
    by_cases e : m.p = j
    · subst e
      simp [hp]
    · simp [e]
  · unfold Room
    rw [h3 m.p hp]
    refine ⟨.inl rfl, ?_⟩
    have := List.length_filter_le (fun m' : Msg => m'.p == m.p) L
    simp only
    omega

/-! ### Release where nothing waits -/
section
variable {x : Cx} (hx : NoWait x)
include hx
theorem dr_free (j n : Nat) : ∀ (ms : List Msg) (σ : PS), (σ.q j).2 = ms → j < σ.qs.length → σ.ds = appl n σ.rs →
    (dr x j ms σ).rs = σ.rs ++ ms.map Msg.pq ∧ (dr x j ms σ).hs = σ.hs ∧ (dr x j ms σ).qs.length = σ.qs.length ∧ ((dr x j ms σ).q j).2 = [] ∧ (∀ i, i ≠ j → (dr x j ms σ).q i = σ.q i) ∧ (dr x j ms σ).ds = appl n (dr x j ms σ).rs
  | [], σ, hq, hj, hd => by
    refine ⟨by simp [dr], rfl, rfl, hq, fun _ _ => rfl, hd⟩
  | m :: ms, σ, hq, hj, hd => by
    have e : dr x j (m :: ms) σ = dr x j ms (σ.go j m ms) := by
      rw [dr, if_pos (hx σ m)]
    rw [e]
    have hj' : j < (σ.go j m ms).qs.length := by simpa [PS.go] using hj
    have hq' : ((σ.go j m ms).q j).2 = ms := by
      rw [PS.q_eq _ j hj']
      simp [PS.go]
    obtain ⟨a1, a2, a3, a4, a5, a6⟩ := dr_free j n ms (σ.go j m ms) hq' hj' (by simp only [PS.go]; rw [appl_snoc, hd])
    refine ⟨?_, a2, ?_, a4, fun i hi => ?_, a6⟩
    · rw [a1]
      simp [PS.go, Msg.pq]
    · rw [a3]
      simp [PS.go]
    · rw [a5 i hi]
      unfold PS.q
      simp only [PS.go]
      rw [List.getD_eq_getElem?_getD, List.getD_eq_getElem?_getD, List.getElem?_set_ne (Ne.symm hi)]

theorem visit_free (j n : Nat) (σ : PS) (hj : j < σ.qs.length) (hd : σ.ds = appl n σ.rs) :
    (visit x σ j).rs = σ.rs ++ (σ.q j).2.map Msg.pq ∧ (visit x σ j).hs = clrBit σ.hs j ∧ (visit x σ j).qs.length = σ.qs.length ∧ ((visit x σ j).q j).2 = [] ∧ (∀ i, i ≠ j → (visit x σ j).q i = σ.q i) ∧ (visit x σ j).ds = appl n (visit x σ j).rs := by
  obtain ⟨a1, a2, a3, a4, a5, a6⟩ := dr_free hx j n _ σ rfl hj hd
  have e : visit x σ j = (dr x j (σ.q j).2 σ).drop j := by
    unfold visit PS.tidy
    rw [a4]
    rfl
  rw [e]
  exact ⟨a1, by simp only [PS.drop]; rw [a2], a3, a4, a5, a6⟩

theorem pass_free (n : Nat) : ∀ (js : List Nat) (σ : PS), js.Nodup → (∀ j ∈ js, j < σ.qs.length) → σ.ds = appl n σ.rs →
    (js.foldl (visit x) σ).rs = σ.rs ++ js.flatMap (fun j => (σ.q j).2.map Msg.pq) ∧ (js.foldl (visit x) σ).hs = js.foldl clrBit σ.hs ∧ (js.foldl (visit x) σ).qs.length = σ.qs.length ∧ (∀ j, (j ∈ js → ((js.foldl (visit x) σ).q j).2 = []) ∧ (j ∉ js → (js.foldl (visit x) σ).q j = σ.q j)) ∧ (js.foldl (visit x) σ).ds = appl n (js.foldl (visit x) σ).rs
  | [], σ, _, _, hd => by simp [hd]
  | j :: js, σ, hn, hl, hd => by
    obtain ⟨hnj, hn'⟩ := List.nodup_cons.1 hn
    obtain ⟨a1, a2, a3, a4, a5, a6⟩ := visit_free hx j n σ (hl j (by simp)) hd
    obtain ⟨b1, b2, b3, b4, b5⟩ := pass_free n js (visit x σ j) hn' (fun i hi => by rw [a3]; exact hl i (by simp [hi])) a6
    simp only [List.foldl_cons]
    refine ⟨?_, by rw [b2, a2], by rw [b3, a3], fun i => ⟨fun hi => ?_, fun hi => ?_⟩, b5⟩
    · rw [b1, a1, List.flatMap_cons, List.append_assoc]
      congr 2
      apply flatMap_same
      intro i hi
      rw [a5 i (fun e => hnj (e ▸ hi))]
    · by_cases e : i ∈ js
      · exact (b4 i).1 e
      · have e2 : i = j := by simpa [e] using hi
        rw [(b4 i).2 e, e2]
        exact a4
    · simp only [List.mem_cons, not_or] at hi
      rw [(b4 i).2 hi.2]
      exact a5 i hi.1
end

theorem clr_all (h : Nat) (hh : h < 256) : (bitsOf h).foldl clrBit h = 0 := by
  have := all256 (p := fun h => (bitsOf h).foldl clrBit h == 0) (by decide +kernel) h hh
  simpa using this
theorem bits_nodup (h : Nat) : (bitsOf h).Nodup := List.Pairwise.filter _ List.nodup_range

/-- What Release leaves where nothing waits. -/
theorem rel_kept {x : Cx} (hx : NoWait x) {n : Nat} {L : List Msg} {σ : PS} (h8 : n ≤ 8) (h : Kept n L σ) (hh : σ.hs < 2 ^ n) :
    (rel x σ).rs = (List.range n).flatMap (fun j => (L.filter (fun m => m.p == j)).map Msg.pq) ∧ (∀ j, j < n → ((rel x σ).q j).2 = []) ∧ (rel x σ).ds = appl n (rel x σ).rs := by
  obtain ⟨h1, h2, h3, h4, h5⟩ := h
  have h256 : σ.hs < 256 := Nat.lt_of_lt_of_le hh (pow8 n h8)
  have hlt : ∀ j ∈ bitsOf σ.hs, j < σ.qs.length := by
    intro j hj
    simp only [bitsOf, List.mem_filter] at hj
    rw [h1]
    exact ((h4 j).1 hj.2).1
  obtain ⟨a1, a2, a3, a4, a5⟩ := pass_free hx n (bitsOf σ.hs) σ (bits_nodup _) hlt (by rw [h5, h2])
  have hp : pass x σ = (bitsOf σ.hs).foldl (visit x) σ := rfl
  rw [← hp] at a1 a2 a3 a4 a5
  have hs0 : (pass x σ).hs = 0 := by rw [a2]; exact clr_all _ h256
  have hpp : pass x (pass x σ) = pass x σ := by
    show (bitsOf (pass x σ).hs).foldl (visit x) (pass x σ) = pass x σ
    rw [hs0, b0]
    rfl
  have hrel : ∀ k, relF x k (pass x σ) = pass x σ := by
    intro k
    cases k with
    | zero => rfl
    | succ k => rw [relF, hpp, if_neg (by omega)]
  have hr : rel x σ = pass x σ := by
    unfold rel
    rw [relF, hrel]
    split <;> rfl
  rw [hr]
  refine ⟨?_, fun j hj => ?_, a5⟩
  · rw [a1, h2, List.nil_append]
    have e1 : (bitsOf σ.hs).flatMap (fun j => (σ.q j).2.map Msg.pq) = (List.range 8).flatMap (fun j => if σ.hs.testBit j then (σ.q j).2.map Msg.pq else []) := by
      unfold bitsOf
      generalize List.range 8 = l
      induction l with
      | nil => rfl
      | cons a l ih =>
        simp only [List.flatMap_cons, List.filter_cons]
        split
        · rename_i hb
          rw [List.flatMap_cons, ih]
        · rw [ih, List.nil_append]
    rw [e1]
    have e2 : List.range 8 = List.range n ++ (List.range (8 - n)).map (n + ·) := by
      rw [← List.range_add]
      congr 1
      omega
    rw [e2, List.flatMap_append]
    have e3 : ((List.range (8 - n)).map (n + ·)).flatMap (fun j => if σ.hs.testBit j then (σ.q j).2.map Msg.pq else []) = [] := by
      rw [List.flatMap_eq_nil_iff]
      intro j hj
      simp only [List.mem_map, List.mem_range] at hj
      obtain ⟨i, _, rfl⟩ := hj
      rw [if_neg]
      intro hb
      have := ((h4 _).1 hb).1
      omega
    rw [e3, List.append_nil]
    apply flatMap_same
    intro j hj
    have hj' : j < n := by simpa using hj
    rw [h3 j hj']
    split
    · rfl
    · rename_i hb
      have : L.filter (fun m => m.p == j) = [] := by
        apply Classical.byContradiction
        intro hne
        exact hb ((h4 j).2 ⟨hj', hne⟩)
      rw [this]
      rfl
  · by_cases hb : j ∈ bitsOf σ.hs
    · exact (a4 j).1 hb
    · rw [(a4 j).2 hb, h3 j hj]
      have hb2 : ¬ σ.hs.testBit j = true := by
        intro e
        apply hb
        simp only [bitsOf, List.mem_filter, List.mem_range]
        exact ⟨by omega, e⟩
      apply Classical.byContradiction
      intro hne
      exact hb2 ((h4 j).2 ⟨hj, hne⟩)

end Go.Proofs.YbulkbobqFmt
