/-
  The whole state of a run, as memory and as plain data; the steps that turn it.
-/
import Derived.Test.YbulkbobqFmtQrow
import Derived.Test.YbulkbobqFmtHoldsBack
namespace Go.Proofs.YbulkbobqFmt
open Go.RowKit

/-- What stays through a run. -/
structure Cx where
  base : Nat
  O : Nat
  C : Nat
  s : OS
  fifo : Bool
  al : Msg → List (Nat × Int × Int)
  w0 : World

/-- The plain state: the holders, how many are held, what is delivered, the queues, the log. -/
structure PS where
  hs : Nat
  hold : Nat
  ds : List Int
  qs : List (Nat × List Msg)
  rs : List (Nat × Int)

/-- The message's entries. -/
structure MOK (x : Cx) (w : World) (m : Msg) : Prop where
  len : (x.al m).length = m.ml
  one : m.ml ≤ 1
  ents : Ents w (.slice m.e m.ml m.ml) (x.al m)
  sd : ∀ e ∈ x.al m, e.1 < x.s.n
  p : m.p < x.s.n
  q : 0 ≤ m.q ∧ m.q < 18446744073709551616

/-- The blocks of S bear types in A. -/
def Typed (w : World) (S A : List Nat) : Prop := ∀ g, g ∈ S → ∃ (cur : Array Value) (t : TypeId) (fr : Nat × Nat), w.heap[g]? = some (.cells cur t fr) ∧ t ∈ A

theorem MOK.fr {x : Cx} {w w' : World} {m : Msg} {S T A : List Nat} (h : MOK x w m) (hf : Fr x.base S T w w') (hS : Typed w S A) (hT : 46 ∉ T) (hA : 46 ∉ A) : MOK x w' m :=
  ⟨h.len, h.one, h.ents.fr hf hT fun k hk => by
    obtain ⟨c, t, f, e, ht⟩ := hS k hk
    exact ⟨c, t, f, e, fun e' => hA (e' ▸ ht)⟩, h.sd, h.p, h.q⟩

/-- The whole state. -/
structure Al (x : Cx) (w : World) (barred : Bool) (k : Nat) (u : Value) (ws : List (Nat × Int)) (σ : PS) : Prop where
  st : Stat x.base x.O x.s
  wk : ∃ l scr, Wk x.base x.O (16 * k) x.s w l σ.hold σ.hs scr x.fifo barred
  hs : σ.hs < 2 ^ x.s.n
  D : Drow w x.s.D σ.ds
  dl : σ.ds.length = x.s.n
  Z : Drow w x.s.E (List.replicate x.s.n 0)
  Q : Qrow x.base w x.s.H σ.qs
  ql : σ.qs.length = x.s.n
  qb : ∀ q ∈ σ.qs, q.1 + q.2.length ≤ 2000
  cb : Cb x.base w x.C σ.rs u ws
  tab : Tab w
  pos : 0 < x.base
  mok : ∀ q ∈ σ.qs, ∀ m ∈ q.2, MOK x w m
  low : Below x.base x.w0 w

section
variable {x : Cx} {w w' : World} {barred : Bool} {k : Nat} {u : Value} {ws : List (Nat × Int)} {σ : PS} {S T A : List Nat}
theorem Al.size (h : Al x w barred k u ws σ) : x.base ≤ w.heap.size := by
  obtain ⟨l, scr, hw⟩ := h.wk
  exact Nat.le_trans h.st.bO (Nat.le_of_lt hw.ob.lt)
theorem Al.types (h : Al x w barred k u ws σ) : (∃ cur, w.heap[x.O]? = some (.cells cur 57 (0, 0))) ∧ (∃ cur, w.heap[x.s.L]? = some (.cells cur 52 (0, 0))) ∧ (∃ cur, w.heap[x.s.P]? = some (.cells cur 26 (0, 0))) ∧
    (∃ cur, w.heap[x.s.K]? = some (.cells cur 26 (0, 0))) ∧ (∃ cur, w.heap[x.s.D]? = some (.cells cur 26 (0, 0))) ∧ (∃ cur, w.heap[x.s.H]? = some (.cells cur 61 (0, 0))) ∧ ∃ cur, w.heap[x.C]? = some (.cells cur 25 (0, 0)) := by
  obtain ⟨l, scr, hw⟩ := h.wk
  obtain ⟨cl, hl, _⟩ := hw.L
  obtain ⟨ck, hk, _⟩ := hw.K
  obtain ⟨cp, hp, _⟩ := hw.P
  obtain ⟨_, cd, hd, _⟩ := h.D
  obtain ⟨ch, _, hh, _⟩ := h.Q
  obtain ⟨v, hc, _⟩ := h.cb
  exact ⟨⟨_, hw.ob⟩, ⟨_, hl⟩, ⟨_, hp⟩, ⟨_, hk⟩, ⟨_, hd⟩, ⟨_, hh⟩, ⟨_, hc⟩⟩
theorem Al.fLow (h : Al x w barred k u ws σ) (hf : Fr x.base S T w w') : Below x.base x.w0 w' := h.low.trans (hf.below (Nat.le_refl _) h.size)
theorem Al.fTab (h : Al x w barred k u ws σ) (hf : Fr x.base S T w w') : Tab w' := h.tab.fr hf h.pos (Nat.lt_of_lt_of_le h.pos h.size)
theorem Al.fQ (h : Al x w barred k u ws σ) (hf : Fr x.base S T w w') (hS : Typed w S A) (h1 : 61 ∉ A) (h2 : 32 ∉ A) (h3 : 61 ∉ T) (h4 : 32 ∉ T) : Qrow x.base w' x.s.H σ.qs := by
  refine h.Q.fr hf (fun hk => ?_) h3 h4 fun g hg cur hc => ?_
  · obtain ⟨_, _, _, _, _, ⟨ch, hh⟩, _⟩ := h.types
    obtain ⟨c, t, f, e, ht⟩ := hS _ hk
    rw [hh] at e
    simp at e
    exact h1 (e.2.1 ▸ ht)
  · obtain ⟨c, t, f, e, ht⟩ := hS g hg
    rw [hc] at e
    simp at e
    exact h2 (e.2.1 ▸ ht)
theorem Al.fCb (h : Al x w barred k u ws σ) (hf : Fr x.base S T w w') (hS : Typed w S A) (h1 : 34 ∉ A) (h2 : 25 ∉ A) (h3 : 34 ∉ T) (h4 : 25 ∉ T) : Cb x.base w' x.C σ.rs u ws := by
  refine h.cb.fr hf h4 h3 fun g hg => ?_
  obtain ⟨c, t, f, e, ht⟩ := hS g hg
  exact ⟨c, t, f, e, fun e' => h1 (e' ▸ ht), fun e' => h2 (e' ▸ ht)⟩
theorem Al.fMok (h : Al x w barred k u ws σ) (hf : Fr x.base S T w w') (hS : Typed w S A) (h1 : 46 ∉ A) (h2 : 46 ∉ T) : ∀ q ∈ σ.qs, ∀ m ∈ q.2, MOK x w' m := fun q hq m hm => (h.mok q hq m hm).fr hf hS h2 h1
/-- Nothing of the state turns. -/
theorem Al.fr (h : Al x w barred k u ws σ) (hf : Fr x.base [] [] w w') (hl : LogOK x.base w → LogOK x.base w') : Al x w' barred k u ws σ := by
  obtain ⟨l, scr, hw⟩ := h.wk
  have hS : Typed w [] [] := fun g hg => by simp at hg
  exact ⟨h.st, ⟨l, scr, hw.fr hf (hl hw.ok) (by simp) (by simp) (by simp) (by simp) (by simp) (by simp) (by simp)⟩, h.hs, h.D.fr hf (by simp) (by simp), h.dl, h.Z.fr hf (by simp) (by simp), h.fQ hf hS (by simp) (by simp) (by simp) (by simp), h.ql, h.qb,
    h.fCb hf hS (by simp) (by simp) (by simp) (by simp), h.fTab hf, h.pos, h.fMok hf hS (by simp) (by simp), h.fLow hf⟩
theorem Al.alloc (h : Al x w barred k u ws σ) (cur : Array Value) (t : TypeId) (ht : t ≠ 70) : Al x (w.alloc (.cells cur t)) barred k u ws σ := h.fr ((Fr.refl _ _ _ _).alloc _) fun hl => hl.alloc _ _ fun e => absurd e ht
theorem Al.drewN (h : Al x w barred k u ws σ) (q : Nat) : Al x (w.drewN q) barred k u ws σ := h.fr ((Fr.refl _ _ _ _).drewN q) fun hl => hl.same rfl
theorem Al.drew (h : Al x w barred k u ws σ) : Al x w.drew barred k u ws σ := h.fr (Fr.refl _ _ _ _).drew fun hl => hl.same rfl
/-- What comes above leaves it. -/
theorem Al.below (h : Al x w barred k u ws σ) (hb : Below w.heap.size w w') (hl : LogOK x.base w → LogOK x.base w') : Al x w' barred k u ws σ :=
  h.fr ⟨hb.os, hb.tape, hb.output, hb.size, fun b hb' _ => hb.block b hb', fun b cur _ _ hg => ⟨cur, (hb.block b (Array.getElem?_eq_some_iff.1 hg).1).trans hg, rfl⟩⟩ hl
end

/-- A delivery. -/
theorem Al.deliver {x : Cx} {w w' : World} {barred : Bool} {k : Nat} {u : Value} {ws : List (Nat × Int)} {σ : PS} {p : Nat} {sq : Int} {e : Ending} (h : Al x w barred k u ws σ) (hp : DeliverPost x.base x.O (16 * k) x.s σ.hold σ.hs x.fifo barred σ.ds p sq w e w') :
    Al x w' barred (k + 1) u ws { σ with ds := σ.ds.set p sq } := by
  obtain ⟨_, ⟨l', scr', hw'⟩, hD, hf⟩ := hp
  obtain ⟨⟨c1, t1⟩, ⟨c2, t2⟩, ⟨c3, t3⟩, ⟨c4, t4⟩, ⟨c5, t5⟩, _⟩ := h.types
  have hS : Typed w [x.O, x.s.L, x.s.P, x.s.K, x.s.D] [57, 52, 26] := by
    intro g hg
    simp only [List.mem_cons, List.not_mem_nil, or_false] at hg
    rcases hg with rfl | rfl | rfl | rfl | rfl
    · exact ⟨_, _, _, t1, by simp⟩
    · exact ⟨_, _, _, t2, by simp⟩
    · exact ⟨_, _, _, t3, by simp⟩
    · exact ⟨_, _, _, t4, by simp⟩
    · exact ⟨_, _, _, t5, by simp⟩
  have st := h.st
  exact ⟨h.st, ⟨l', scr', hw'⟩, h.hs, hD, by simpa using h.dl, h.Z.fr hf (by simp; exact ⟨Ne.symm st.OE, Ne.symm st.LE, Ne.symm st.PE, Ne.symm st.KE, Ne.symm st.DE⟩) (by simp), h.fQ hf hS (by simp) (by simp) (by simp) (by simp), h.ql, h.qb,
    h.fCb hf hS (by simp) (by simp) (by simp) (by simp), h.fTab hf, h.pos, h.fMok hf hS (by simp) (by simp), h.fLow hf⟩

/-- A record. -/
theorem Al.record {x : Cx} {w w' : World} {barred : Bool} {k : Nat} {u : Value} {ws : List (Nat × Int)} {σ : PS} {m : Msg} {e : Ending} (h : Al x w barred k u ws σ) (hp : CbPost x.base x.C σ.rs u ws m w e w') :
    Al x w' barred k u ws { σ with rs := σ.rs ++ [(m.p, m.q)] } := by
  obtain ⟨_, hcb, hf, hl⟩ := hp
  obtain ⟨⟨c1, t1⟩, ⟨c2, t2⟩, ⟨c3, t3⟩, ⟨c4, t4⟩, ⟨c5, t5⟩, ⟨c6, t6⟩, ⟨c7, t7⟩⟩ := h.types
  have hS : Typed w [x.C] [25] := by
    intro g hg
    simp only [List.mem_cons, List.not_mem_nil, or_false] at hg
    subst hg
    exact ⟨_, _, _, t7, by simp⟩
  have ne : ∀ {b : Nat} {cur : Array Value} {t : TypeId}, w.heap[b]? = some (.cells cur t (0, 0)) → t ≠ 25 → b ∉ [x.C] := by
    intro b cur t hb ht hk
    simp only [List.mem_cons, List.not_mem_nil, or_false] at hk
    subst hk
    rw [t7] at hb
    simp at hb
    exact ht hb.2.symm
  obtain ⟨l, scr, hw⟩ := h.wk
  obtain ⟨_, ce, te, _⟩ := h.Z
  exact ⟨h.st, ⟨l, scr, hw.fr hf (hl hw.ok) (ne t1 (by simp)) (ne t2 (by simp)) (ne t4 (by simp)) (ne t3 (by simp)) (by simp) (by simp) (by simp)⟩, h.hs, h.D.fr hf (ne t5 (by simp)) (by simp), h.dl, h.Z.fr hf (ne te (by simp)) (by simp), h.fQ hf hS (by simp) (by simp) (by simp) (by simp), h.ql, h.qb,
    hcb, h.fTab hf, h.pos, h.fMok hf hS (by simp) (by simp), h.fLow hf⟩

/-- A step that turns queue j. -/
theorem Al.queue {x : Cx} {w w' : World} {barred : Bool} {k : Nat} {u : Value} {ws : List (Nat × Int)} {σ : PS} {v : Value} {ms : List Msg} {hd : Nat} (h : Al x w barred k u ws σ) (hq : Qu x.base w v hd ms) (hf : Fr x.base (x.s.H :: v.ownBlock.toList) [] w w') (hl : LogOK x.base w → LogOK x.base w')
    {qs' : List (Nat × List Msg)} (hQ : Qrow x.base w' x.s.H qs') (hql : qs'.length = x.s.n) (hqb : ∀ q ∈ qs', q.1 + q.2.length ≤ 2000) (hm : ∀ q ∈ qs', ∀ m ∈ q.2, MOK x w m) : Al x w' barred k u ws { σ with qs := qs' } := by
  obtain ⟨⟨c1, t1⟩, ⟨c2, t2⟩, ⟨c3, t3⟩, ⟨c4, t4⟩, ⟨c5, t5⟩, ⟨c6, t6⟩, ⟨c7, t7⟩⟩ := h.types
  have hS : Typed w (x.s.H :: v.ownBlock.toList) [61, 32] := by
    intro g hg
    simp only [List.mem_cons, Option.mem_toList] at hg
    rcases hg with rfl | hg
    · exact ⟨_, _, _, t6, by simp⟩
    · obtain ⟨_, cu, hc⟩ := hq.block g hg
      exact ⟨_, _, _, hc, by simp⟩
  have ne : ∀ {b : Nat} {cur : Array Value} {t : TypeId}, w.heap[b]? = some (.cells cur t (0, 0)) → t ∉ [61, 32] → b ∉ (x.s.H :: v.ownBlock.toList) := by
    intro b cur t hb ht hk
    obtain ⟨c, t', f, e, h'⟩ := hS b hk
    rw [hb] at e
    simp only [Option.some.injEq, Obj.cells.injEq] at e
    exact ht (e.2.1 ▸ h')
  obtain ⟨l, scr, hw⟩ := h.wk
  obtain ⟨_, ce, te, _⟩ := h.Z
  exact ⟨h.st, ⟨l, scr, hw.fr hf (hl hw.ok) (ne t1 (by simp)) (ne t2 (by simp)) (ne t4 (by simp)) (ne t3 (by simp)) (by simp) (by simp) (by simp)⟩, h.hs, h.D.fr hf (ne t5 (by simp)) (by simp), h.dl, h.Z.fr hf (ne te (by simp)) (by simp), hQ, hql, hqb,
    h.fCb hf hS (by simp) (by simp) (by simp) (by simp), h.fTab hf, h.pos, fun q hq m hmm => (hm q hq m hmm).fr hf hS (by simp) (by simp), h.fLow hf⟩

/-- A step that turns the Orderer's own cells. -/
theorem Al.own {x : Cx} {w w' : World} {barred barred' : Bool} {k : Nat} {u : Value} {ws : List (Nat × Int)} {σ : PS} {hs' hold' : Nat} (h : Al x w barred k u ws σ) (hf : Fr x.base [x.O] [] w w') (hl : LogOK x.base w → LogOK x.base w')
    (hO : ∀ (l : Nat) (scr : Value), Ob w x.O x.s l σ.hold σ.hs scr x.fifo barred → Ob w' x.O x.s l hold' hs' scr x.fifo barred') (hh : hs' < 2 ^ x.s.n) : Al x w' barred' k u ws { σ with hs := hs', hold := hold' } := by
  obtain ⟨⟨c1, t1⟩, ⟨c2, t2⟩, ⟨c3, t3⟩, ⟨c4, t4⟩, ⟨c5, t5⟩, ⟨c6, t6⟩, ⟨c7, t7⟩⟩ := h.types
  have hS : Typed w [x.O] [57] := by
    intro g hg
    simp only [List.mem_cons, List.not_mem_nil, or_false] at hg
    subst hg
    exact ⟨_, _, _, t1, by simp⟩
  have ne : ∀ {b : Nat} {cur : Array Value} {t : TypeId}, w.heap[b]? = some (.cells cur t (0, 0)) → t ∉ [57] → b ∉ [x.O] := by
    intro b cur t hb ht hk
    obtain ⟨c, t', f, e, h'⟩ := hS b hk
    rw [hb] at e
    simp only [Option.some.injEq, Obj.cells.injEq] at e
    exact ht (e.2.1 ▸ h')
  obtain ⟨l, scr, hw⟩ := h.wk
  obtain ⟨_, ce, te, _⟩ := h.Z
  exact ⟨h.st, ⟨l, scr, ⟨hO l scr hw.ob, hw.hl, hw.scr.fr hf, hl hw.ok, hw.L.fr hf (ne t2 (by simp)) (by simp), hw.K.fr hf (ne t4 (by simp)) (by simp), hw.P.fr hf (ne t3 (by simp)) (by simp)⟩⟩, hh, h.D.fr hf (ne t5 (by simp)) (by simp), h.dl, h.Z.fr hf (ne te (by simp)) (by simp), h.fQ hf hS (by simp) (by simp) (by simp) (by simp), h.ql, h.qb,
    h.fCb hf hS (by simp) (by simp) (by simp) (by simp), h.fTab hf, h.pos, h.fMok hf hS (by simp) (by simp), h.fLow hf⟩

theorem Al.ob {x : Cx} {w : World} {barred : Bool} {k : Nat} {u : Value} {ws : List (Nat × Int)} {σ : PS} (h : Al x w barred k u ws σ) : ∃ (l : Nat) (scr : Value), Ob w x.O x.s l σ.hold σ.hs scr x.fifo barred := by
  obtain ⟨l, scr, hw⟩ := h.wk
  exact ⟨l, scr, hw.ob⟩
/-- A cell of the Orderer is stored. -/
theorem Al.cell {x : Cx} {w : World} {barred barred' : Bool} {k : Nat} {u : Value} {ws : List (Nat × Int)} {σ : PS} {hs' hold' : Nat} {i : Nat} {v : Value} (h : Al x w barred k u ws σ)
    (hO : ∀ (l : Nat) (scr : Value), Ob w x.O x.s l σ.hold σ.hs scr x.fifo barred → Ob (w.setCell ⟨x.O, i, none⟩ v) x.O x.s l hold' hs' scr x.fifo barred') (hh : hs' < 2 ^ x.s.n) : Al x (w.setCell ⟨x.O, i, none⟩ v) barred' k u ws { σ with hs := hs', hold := hold' } := by
  obtain ⟨l, scr, ho⟩ := h.ob
  exact h.own ((Fr.refl _ _ _ _).setCell ho _ h.st.bO (.inl (by simp))) (fun hl => hl.setCell ho _ (fun e => by simp at e)) hO hh

end Go.Proofs.YbulkbobqFmt
