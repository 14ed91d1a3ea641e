/-
  The calls at the whole state.
-/
import Derived.Test.YbulkbobqFmtRel
namespace Go.Proofs.YbulkbobqFmt
open Go.RowKit

section
variable {x : Cx} {w : World} {barred : Bool} {k : Nat} {u : Value} {ws : List (Nat × Int)} {σ : PS}
theorem Fr.ofBelow {base : Nat} {S T : List Nat} {w w' : World} (hb : Below w.heap.size w w') : Fr base S T w w' :=
  ⟨hb.os, hb.tape, hb.output, hb.size, fun b hb' _ => hb.block b hb', fun b cur _ _ hg => ⟨cur, (hb.block b (Array.getElem?_eq_some_iff.1 hg).1).trans hg, rfl⟩⟩
theorem MOK.keep {w' : World} {m : Msg} (h : MOK x w m) (hf : Fr x.base [] [] w w') : MOK x w' m := h.fr (S := []) (T := []) (A := []) hf (fun g hg => by simp at hg) (by simp) (by simp)

theorem len_al (h : Al x w barred k u ws σ) (j : Nat) (hj : j < σ.qs.length) : Calls Ybaf.prog 17 #[.pointer (some ⟨x.s.H, j * 2, none⟩)] w fun e w' => e = .returned (.int .i64 (σ.qs[j].2.length : Nat)) ∧ ∃ q, w' = w.drewN q := by
  obtain ⟨v, cH, q1, q2, q3, q4, q5, q6⟩ := h.Q.at j hj
  have hqb := h.qb (σ.qs[j]) (List.getElem_mem hj)
  obtain ⟨av, cv, rfl⟩ := q5.form
  refine (len_any x.s.H (j * 2) _ cv av _ w q2 q3 (by omega) (by omega)).mono ?_
  rintro e w' ⟨rfl, q, rfl⟩
  refine ⟨?_, q, rfl⟩
  congr 2
  omega

theorem at_al (h : Al x w barred k u ws σ) (j : Nat) (hj : j < σ.qs.length) {m : Msg} {ms : List Msg} (hq : σ.qs[j].2 = m :: ms) : Calls Ybaf.prog 30 #[.pointer (some ⟨x.s.H, j * 2, none⟩), .int .i64 0] w fun e w' => e = .returned (.agg m.arr) ∧ Al x w' barred k u ws σ ∧ Fr x.base [] [] w w' := by
  obtain ⟨v, cH, q1, q2, q3, q4, q5, q6⟩ := h.Q.at j hj
  have hqb := h.qb (σ.qs[j]) (List.getElem_mem hj)
  rw [hq] at q5 hqb
  refine (at_any x.base x.s.H (j * 2) v _ (m :: ms) w q2 q3 q5 (by simp) (by omega)).mono ?_
  rintro e w' ⟨rfl, hb, hl⟩
  exact ⟨rfl, h.below hb (hl _), Fr.ofBelow hb⟩

theorem deliverable_al (h : Al x w barred k u ws σ) {m : Msg} (hm : MOK x w m) : Calls Ybaf.prog 18 #[.pointer (some ⟨x.O, 0, none⟩), .agg m.arr] w fun e w' => e = .returned (.bool (may x σ m)) ∧ Al x w' barred k u ws σ ∧ Fr x.base [] [] w w' := by
  obtain ⟨l, scr, ho⟩ := h.ob
  have h8 := h.st.n8
  have hs := h.st.self
  have hDc : ∀ i, i < x.s.n → w.cell? ⟨x.s.D, i, none⟩ = some (.int .u64 (σ.ds.getD i 0)) := by
    intro i hi
    rw [(h.D.cell i (by rw [h.dl]; exact hi)).1, List.getD_eq_getElem?_getD, List.getElem?_eq_getElem (by rw [h.dl]; exact hi)]
    rfl
  have hZc : ∀ i, i < x.s.n → w.cell? ⟨x.s.E, i, none⟩ = some (.int .u64 0) := by
    intro i hi
    rw [(h.Z.cell i (by simpa using hi)).1]
    simp
  refine (deliverable_any x.O x.s l σ.hold σ.hs scr x.fifo barred σ.ds m.p m.q m.t m.e m.ml (x.al m) w ho (by omega) h.dl (fun z hz => (h.D.1 z hz).1) hDc hZc hm.len hm.ents hm.one hm.sd).mono ?_
  rintro e w' ⟨rfl, hb, hl⟩
  exact ⟨rfl, h.below hb (hl _), Fr.ofBelow hb⟩

theorem deliver_al (h : Al x w barred k u ws σ) {m : Msg} (hm : MOK x w m) (hk : k ≤ 5000) : Calls Ybaf.prog 20 #[.pointer (some ⟨x.O, 0, none⟩), .agg m.arr] w fun e w' => e = .returned (.tuple #[]) ∧ Al x w' barred (k + 1) u ws { σ with ds := σ.ds.set m.p m.q } ∧ ∀ (M : Nat) (cur : Array Value), w.heap[M]? = some (.cells cur 32 (0, 0)) → w'.heap[M]? = some (.cells cur 32 (0, 0)) := by
  obtain ⟨l, scr, hw⟩ := h.wk
  have e : m.arr = msgA m.p m.q m.t (.slice m.e (x.al m).length (x.al m).length) := by rw [hm.len]; rfl
  rw [e]
  refine (deliver_any x.base x.O (16 * k) x.s l σ.hold σ.hs scr x.fifo barred σ.ds m.p m.q m.t m.e (x.al m) w h.st hw h.D h.dl h.tab h.pos hm.p hm.q (by rw [hm.len]; exact hm.ents) (by rw [hm.len]; exact hm.one) hm.sd (by omega)).mono ?_
  intro e' w' hp
  have hf := hp.2.2.2
  refine ⟨hp.1, h.deliver hp, fun M cur hM => hf.same hM (fun hk => ?_) (by simp)⟩
  obtain ⟨⟨c1, t1⟩, ⟨c2, t2⟩, ⟨c3, t3⟩, ⟨c4, t4⟩, ⟨c5, t5⟩, _⟩ := h.types
  simp only [List.mem_cons, List.not_mem_nil, or_false] at hk
  rcases hk with rfl | rfl | rfl | rfl | rfl
  · rw [t1] at hM; simp at hM
  · rw [t2] at hM; simp at hM
  · rw [t3] at hM; simp at hM
  · rw [t4] at hM; simp at hM
  · rw [t5] at hM; simp at hM

theorem pop_al (h : Al x w barred k u ws σ) (j : Nat) (hj : j < σ.qs.length) {hd : Nat} {m : Msg} {ms : List Msg} (hq : σ.qs[j] = (hd, m :: ms)) : Calls Ybaf.prog 31 #[.pointer (some ⟨x.s.H, j * 2, none⟩)] w fun e w' => e = .returned (.agg m.arr) ∧ Al x w' barred k u ws { σ with qs := σ.qs.set j (hd + 1, ms) } ∧ MOK x w' m := by
  obtain ⟨v, cH, ⟨q1, q2, q3, q4, q5, q6⟩, hup⟩ := h.Q.upd j hj
  have hqb := h.qb (σ.qs[j]) (List.getElem_mem hj)
  have hmk := h.mok (σ.qs[j]) (List.getElem_mem hj)
  rw [hq] at q3 q5 hqb hmk
  simp only [List.length_cons] at q3 q5 hqb hmk
  have hbH : x.base ≤ x.s.H := h.st.bH
  refine (pop_any x.base x.s.H (j * 2) v hd m ms w q2 q3 q4 q5 (by omega) q6 hbH cH q1).mono ?_
  rintro e w' ⟨rfl, b, hb, hf, hqu, hl, hH⟩
  have hf2 : Fr x.base (x.s.H :: v.ownBlock.toList) [] w w' := hf.wider (by rw [hb]; simp) (by simp)
  have hself : w.setCell ⟨x.s.H, j * 2, none⟩ v = w := by
    rw [setCell_eq_setRow w x.s.H _ cH 61 (0, 0) v q1]
    have := q2
    rw [World.cell?, q1] at this
    simp at this
    obtain ⟨ha, hb⟩ := Array.getElem?_eq_some_iff.1 this
    rw [show cH.setIfInBounds (j * 2) v = cH from by rw [← hb]; simp [Array.setIfInBounds, ha], setRow_self w x.s.H cH 61 (0, 0) q1]
  have hQ := hup w' v (hd + 1) ms hf2 (by rw [hself]; exact hH) hqu (fun g hg => .inl hg)
  refine ⟨rfl, h.queue q5 hf2 hl hQ (by simpa using h.ql) (fun q hq' => ?_) (fun q hq' m' hm' => ?_), ?_⟩
  · rcases List.mem_or_eq_of_mem_set hq' with hq' | rfl
    · exact h.qb q hq'
    · simp only; omega
  · rcases List.mem_or_eq_of_mem_set hq' with hq' | rfl
    · exact h.mok q hq' m' hm'
    · exact hmk m' (List.mem_cons_of_mem _ hm')
  · refine (hmk m (by simp)).fr (A := [61, 32]) hf2 (fun g hg => ?_) (by simp) (by simp)
    simp only [List.mem_cons, Option.mem_toList] at hg
    rcases hg with rfl | hg
    · exact ⟨_, _, _, q1, by simp⟩
    · obtain ⟨_, cu, hc⟩ := q5.block g hg
      exact ⟨_, _, _, hc, by simp⟩
end

end Go.Proofs.YbulkbobqFmt
