/-
  LawS3240BHeldUntilDep's plain part.
-/
import Derived.Test.YbulkbobqFmtEqual
import Derived.Test.YbulkbobqFmtNew
namespace Go.Proofs.YbulkbobqFmt
open Go.RowKit

/-- Member 2's message number i. -/
def mTwo (i : Nat) : Msg := { p := 2, q := i, t := 5, e := none, ml := 0 }

/-- The state behind t messages of member 2. -/
def Ok4 (fifo : Bool) (k t : Nat) (A : Msg) (σ : PS) : Prop :=
  if fifo = true ∨ k ≤ t then σ.hs = 0 ∧ σ.hold = 0 ∧ σ.ds = [0, 1, (t : Int)] ∧ ∃ h1 h2, σ.qs = [(0, []), (h1, []), (h2, [])]
  else σ.hs = 2 ∧ σ.hold = 1 ∧ σ.ds = [0, 0, (t : Int)] ∧ ∃ h2, σ.qs = [(0, []), (0, [A]), (h2, [])]

theorem holds_one (d q : Int) : holdsB false 0 d q 1 = decide (d < q) := by
  have : (bits BinOp.and IntKind.u64 1 (IntKind.u64.wrap (2 ^ 0)) != 0) = true := by decide +kernel
  unfold holdsB
  rw [this]
  rfl

theorem b6 : bitsOf 6 = [1, 2] := by decide +kernel
theorem b2 : bitsOf 2 = [1] := by decide +kernel
theorem b0 : bitsOf 0 = [] := by decide +kernel
theorem or22 : orBit 2 2 = 6 := by decide +kernel
theorem c62 : clrBit 6 2 = 2 := by decide +kernel
theorem c21 : clrBit 2 1 = 0 := by decide +kernel

theorem step4 (x : Cx) (fifo : Bool) (k t : Nat) (A : Msg) (σ : PS) (hx : x.fifo = fifo) (hs : x.s.self = 0) (hA : x.al A = [(2, (k : Int), 1)]) (hAp : A.p = 1) (hAq : A.q = 1) (hm : x.al (mTwo (t + 1)) = []) (h : Ok4 fifo k t A σ) :
    Ok4 fifo k (t + 1) A (takeF x false σ (mTwo (t + 1))) ∧ (takeF x false σ (mTwo (t + 1))).rs = σ.rs ++ [(2, ((t + 1 : Nat) : Int))] ++ (if fifo = false ∧ t + 1 = k then [(1, 1)] else []) ∧ Room σ (mTwo (t + 1)) := by
  unfold Ok4 at h
  have hmay : ∀ σ' : PS, may x σ' (mTwo (t + 1)) = true := fun σ' => by unfold may deliverableB; rw [hm]; rfl
  by_cases hc : fifo = true ∨ k ≤ t
  · rw [if_pos hc] at h
    obtain ⟨h1, h2, h3, a1, a2, h4⟩ := h
    have hq : (σ.q 2) = (a2, []) := by unfold PS.q; rw [h4]; rfl
    have ht : takeF x false σ (mTwo (t + 1)) = σ.put (mTwo (t + 1)) := by
      unfold takeF
      rw [if_neg (by rw [show (mTwo (t + 1)).p = 2 from rfl, hq, hmay]; simp), if_pos h2]
    rw [ht]
    refine ⟨?_, ?_, ?_⟩
    · unfold Ok4
      rw [if_pos (hc.imp id fun _ => by omega)]
      refine ⟨h1, h2, ?_, a1, a2, h4⟩
      simp [PS.put, h3, mTwo]
    · rw [if_neg (by rintro ⟨rfl, e⟩; rcases hc with hc | hc; simp at hc; omega)]
      simp [PS.put, mTwo]
    · unfold Room
      rw [show (mTwo (t + 1)).p = 2 from rfl, hq]
      simp; omega
  · rw [if_neg hc] at h
    simp only [not_or, Bool.not_eq_true] at hc
    obtain ⟨rfl, hkt⟩ := hc
    obtain ⟨h1, h2, h3, a2, h4⟩ := h
    have hq : (σ.q 2) = (a2, []) := by unfold PS.q; rw [h4]; rfl
    have ht : takeF x false σ (mTwo (t + 1)) = rel x (σ.push (mTwo (t + 1))) := by
      unfold takeF
      rw [if_neg (by rw [show (mTwo (t + 1)).p = 2 from rfl, hq, hmay]; simp), if_neg (by omega)]
    have hmA : ∀ σ' : PS, ∀ d0 d1 d2, σ'.ds = [d0, d1, d2] → may x σ' A = decide ((k : Int) ≤ d2) := by
      intro σ' d0 d1 d2 hd
      unfold may deliverableB
      rw [hx, hs, hA]
      simp only [List.all_cons, List.all_nil, Bool.and_true]
      rw [holds_one, hd]
      show (!decide (d2 < (k : Int))) = decide ((k : Int) ≤ d2)
      rw [← decide_not]
      exact decide_eq_decide.2 (by omega)
    have hp : σ.push (mTwo (t + 1)) = { hs := 6, hold := 2, ds := [0, 0, (t : Int)], qs := [(0, []), (0, [A]), (0, [mTwo (t + 1)])], rs := σ.rs } := by
      unfold PS.push
      rw [show (mTwo (t + 1)).p = 2 from rfl, hq, h1, h2, h3, h4, or22]
      rfl
    have hv1 : visit x { hs := 6, hold := 2, ds := [0, 0, (t : Int)], qs := [(0, []), (0, [A]), (0, [mTwo (t + 1)])], rs := σ.rs } 1 = { hs := 6, hold := 2, ds := [0, 0, (t : Int)], qs := [(0, []), (0, [A]), (0, [mTwo (t + 1)])], rs := σ.rs } := by
      unfold visit
      rw [show (PS.q { hs := 6, hold := 2, ds := [0, 0, (t : Int)], qs := [(0, []), (0, [A]), (0, [mTwo (t + 1)])], rs := σ.rs } 1).2 = [A] from rfl]
      unfold dr
      rw [hmA _ 0 0 t rfl, decide_eq_false (by omega), if_neg (by simp)]
      rfl
    have hv2 : visit x { hs := 6, hold := 2, ds := [0, 0, (t : Int)], qs := [(0, []), (0, [A]), (0, [mTwo (t + 1)])], rs := σ.rs } 2 = { hs := 2, hold := 1, ds := [0, 0, ((t + 1 : Nat) : Int)], qs := [(0, []), (0, [A]), (1, [])], rs := σ.rs ++ [(2, ((t + 1 : Nat) : Int))] } := by
      unfold visit
      rw [show (PS.q { hs := 6, hold := 2, ds := [0, 0, (t : Int)], qs := [(0, []), (0, [A]), (0, [mTwo (t + 1)])], rs := σ.rs } 2).2 = [mTwo (t + 1)] from rfl]
      unfold dr
      rw [hmay, if_pos rfl]
      show PS.drop { hs := 6, hold := 1, ds := [0, 0, ((t + 1 : Nat) : Int)], qs := [(0, []), (0, [A]), (1, [])], rs := σ.rs ++ [(2, ((t + 1 : Nat) : Int))] } 2 = _
      unfold PS.drop
      rw [c62]
    have hpass1 : pass x { hs := 6, hold := 2, ds := [0, 0, (t : Int)], qs := [(0, []), (0, [A]), (0, [mTwo (t + 1)])], rs := σ.rs } = { hs := 2, hold := 1, ds := [0, 0, ((t + 1 : Nat) : Int)], qs := [(0, []), (0, [A]), (1, [])], rs := σ.rs ++ [(2, ((t + 1 : Nat) : Int))] } := by
      unfold pass
      rw [b6]
      simp only [List.foldl_cons, List.foldl_nil]
      rw [hv1, hv2]
    have hrel : rel x (σ.push (mTwo (t + 1))) = relF x 2 { hs := 2, hold := 1, ds := [0, 0, ((t + 1 : Nat) : Int)], qs := [(0, []), (0, [A]), (1, [])], rs := σ.rs ++ [(2, ((t + 1 : Nat) : Int))] } := by
      rw [hp]
      show relF x 3 _ = _
      rw [relF, hpass1, if_pos (by simp)]
    have hroom : Room σ (mTwo (t + 1)) := by
      unfold Room
      rw [show (mTwo (t + 1)).p = 2 from rfl, hq]
      simp; omega
    rw [ht, hrel]
    by_cases hkt1 : t + 1 = k
    · have hv3 : pass x { hs := 2, hold := 1, ds := [0, 0, ((t + 1 : Nat) : Int)], qs := [(0, []), (0, [A]), (1, [])], rs := σ.rs ++ [(2, ((t + 1 : Nat) : Int))] } = { hs := 0, hold := 0, ds := [0, 1, ((t + 1 : Nat) : Int)], qs := [(0, []), (1, []), (1, [])], rs := σ.rs ++ [(2, ((t + 1 : Nat) : Int))] ++ [(1, 1)] } := by
        unfold pass
        rw [b2]
        simp only [List.foldl_cons, List.foldl_nil]
        unfold visit
        rw [show (PS.q { hs := 2, hold := 1, ds := [0, 0, ((t + 1 : Nat) : Int)], qs := [(0, []), (0, [A]), (1, [])], rs := σ.rs ++ [(2, ((t + 1 : Nat) : Int))] } 1).2 = [A] from rfl]
        unfold dr
        rw [hmA _ 0 0 ((t + 1 : Nat) : Int) rfl, decide_eq_true (by omega), if_pos rfl]
        have hgo : PS.go { hs := 2, hold := 1, ds := [0, 0, ((t + 1 : Nat) : Int)], qs := [(0, []), (0, [A]), (1, [])], rs := σ.rs ++ [(2, ((t + 1 : Nat) : Int))] } 1 A [] = { hs := 2, hold := 0, ds := [0, 1, ((t + 1 : Nat) : Int)], qs := [(0, []), (1, []), (1, [])], rs := σ.rs ++ [(2, ((t + 1 : Nat) : Int))] ++ [(1, 1)] } := by
          unfold PS.go
          rw [hAp, hAq]
          rfl
        rw [hgo]
        show PS.drop { hs := 2, hold := 0, ds := [0, 1, ((t + 1 : Nat) : Int)], qs := [(0, []), (1, []), (1, [])], rs := σ.rs ++ [(2, ((t + 1 : Nat) : Int))] ++ [(1, 1)] } 1 = _
        unfold PS.drop
        rw [c21]
      have hv4 : relF x 2 { hs := 2, hold := 1, ds := [0, 0, ((t + 1 : Nat) : Int)], qs := [(0, []), (0, [A]), (1, [])], rs := σ.rs ++ [(2, ((t + 1 : Nat) : Int))] } = { hs := 0, hold := 0, ds := [0, 1, ((t + 1 : Nat) : Int)], qs := [(0, []), (1, []), (1, [])], rs := σ.rs ++ [(2, ((t + 1 : Nat) : Int))] ++ [(1, 1)] } := by
        rw [relF, hv3, if_pos (by simp)]
        rw [relF]
        unfold pass
        rw [b0]
        simp
      rw [hv4]
      refine ⟨?_, ?_, hroom⟩
      · unfold Ok4
        rw [if_pos (.inr (by omega))]
        exact ⟨rfl, rfl, rfl, 1, 1, rfl⟩
      · rw [if_pos ⟨rfl, hkt1⟩]
    · have hv3 : pass x { hs := 2, hold := 1, ds := [0, 0, ((t + 1 : Nat) : Int)], qs := [(0, []), (0, [A]), (1, [])], rs := σ.rs ++ [(2, ((t + 1 : Nat) : Int))] } = { hs := 2, hold := 1, ds := [0, 0, ((t + 1 : Nat) : Int)], qs := [(0, []), (0, [A]), (1, [])], rs := σ.rs ++ [(2, ((t + 1 : Nat) : Int))] } := by
        unfold pass
        rw [b2]
        simp only [List.foldl_cons, List.foldl_nil]
        unfold visit
        rw [show (PS.q { hs := 2, hold := 1, ds := [0, 0, ((t + 1 : Nat) : Int)], qs := [(0, []), (0, [A]), (1, [])], rs := σ.rs ++ [(2, ((t + 1 : Nat) : Int))] } 1).2 = [A] from rfl]
        unfold dr
        rw [hmA _ 0 0 ((t + 1 : Nat) : Int) rfl, decide_eq_false (by omega), if_neg (by simp)]
        rfl
      rw [relF, hv3, if_neg (by simp)]
      refine ⟨?_, ?_, hroom⟩
      · unfold Ok4
        rw [if_neg (by simp; omega)]
        exact ⟨rfl, rfl, rfl, 1, rfl⟩
      · rw [if_neg (fun e => hkt1 e.2)]
        simp

/-- The fresh state. -/
def σ0 (n : Nat) : PS := { hs := 0, hold := 0, ds := List.replicate n 0, qs := List.replicate n (0, []), rs := [] }

theorem first4 (x : Cx) (fifo : Bool) (k : Nat) (A : Msg) (hx : x.fifo = fifo) (hs : x.s.self = 0) (hA : x.al A = [(2, (k : Int), 1)]) (hAp : A.p = 1) (hAq : A.q = 1) (hk : 1 ≤ k) :
    Ok4 fifo k 0 A (takeF x false (σ0 3) A) ∧ (takeF x false (σ0 3) A).rs = (if fifo = true then [(1, 1)] else []) ∧ Room (σ0 3) A := by
  have hq : (σ0 3).q A.p = (0, []) := by rw [hAp]; rfl
  have hroom : Room (σ0 3) A := by unfold Room; rw [hq]; simp
  cases fifo
  · have hm : may x (σ0 3) A = false := by
      unfold may deliverableB
      rw [hx, hs, hA]
      simp only [List.all_cons, List.all_nil, Bool.and_true]
      rw [holds_one]
      show (!decide ((0 : Int) < (k : Int))) = false
      rw [decide_eq_true (by omega)]
      rfl
    have ht : takeF x false (σ0 3) A = (σ0 3).push A := by unfold takeF; rw [if_pos (.inr (.inr hm))]
    rw [ht]
    refine ⟨?_, rfl, hroom⟩
    unfold Ok4
    rw [if_neg (by simp; omega)]
    have hp : (σ0 3).push A = { hs := 2, hold := 1, ds := [0, 0, 0], qs := [(0, []), (0, [A]), (0, [])], rs := [] } := by
      unfold PS.push
      rw [hq, hAp]
      rfl
    rw [hp]
    exact ⟨rfl, rfl, rfl, 0, rfl⟩
  · have hm : may x (σ0 3) A = true := by
      unfold may deliverableB
      rw [hx, hA]
      rfl
    have ht : takeF x false (σ0 3) A = (σ0 3).put A := by
      unfold takeF
      rw [if_neg (by rw [hm, hq]; simp), if_pos (show (σ0 3).hold = 0 from rfl)]
    rw [ht]
    have hp : (σ0 3).put A = { hs := 0, hold := 0, ds := [0, 1, 0], qs := [(0, []), (0, []), (0, [])], rs := [(1, 1)] } := by
      unfold PS.put
      rw [hAp, hAq]
      rfl
    rw [hp]
    refine ⟨?_, rfl, hroom⟩
    unfold Ok4
    rw [if_pos (.inl rfl)]
    exact ⟨rfl, rfl, rfl, 0, 0, rfl⟩

theorem Fresh.fr {base O : Nat} {s : OS} {w w' : World} {fifo : Bool} (h : Fresh base O s w fifo) (hf : Fr base [] [] w w') (hl : LogOK base w → LogOK base w') : Fresh base O s w' fifo := by
  obtain ⟨st, wk, d, e, q⟩ := h
  exact ⟨st, wk.fr hf (hl wk.ok) (by simp) (by simp) (by simp) (by simp) (by simp) (by simp) (by simp), d.fr hf (by simp) (by simp), e.fr hf (by simp) (by simp), q.fr hf (by simp) (by simp) (by simp) (by simp)⟩

theorem Al.start (x : Cx) (W : World) (h : Fresh x.base x.O x.s W x.fifo) (hC : W.heap[x.C]? = some (.cells #[.slice none 0 0] 25 (0, 0))) (hb : x.base ≤ x.C) (ht : Tab W) (hp : 0 < x.base) (hl : Below x.base x.w0 W) : Al x W false 0 (.slice none 0 0) [] (σ0 x.s.n) := by
  obtain ⟨st, wk, d, e, q⟩ := h
  refine ⟨st, ⟨0, _, wk⟩, Nat.two_pow_pos _, d, by simp [σ0], e, q, by simp [σ0], fun q hq => ?_, ⟨_, hC, World.ownsRow_nil _ _ _ _, hb, World.ownsRow_nil _ _ _ _, fun g hg => by simp [Value.ownBlock] at hg⟩, ht, hp, fun q hq m hm => ?_, hl⟩
  · simp only [σ0] at hq
    rw [(List.mem_replicate.1 hq).2]
    simp
  · simp only [σ0] at hq
    rw [(List.mem_replicate.1 hq).2] at hm
    simp at hm

/-- A record more is wanted. -/
theorem Al.want {x : Cx} {w w7 : World} {barred : Bool} {k : Nat} {u v' : Value} {ws : List (Nat × Int)} {σ : PS} {r : Nat × Int} (h : Al x w barred k u ws σ)
    (g1 : w7.ownsRow x.base 34 2 v' (ws.length + 1) ((ws.map recCells).flatten ++ recCells r)) {z : Array Value} (g2 : Moved 34 (ws.map recCells).flatten (recCells r) z w w7 u v') : Al x w7 barred k v' (ws ++ [r]) σ := by
  obtain ⟨v, hC, hr, hbC, hu, hdis⟩ := h.cb
  have hub : ∀ g, u.ownBlock = some g → x.base ≤ g := fun g hg => (owns_block hu g hg).1
  have hf : Fr x.base u.ownBlock.toList [] w w7 := (Fr.refl _ _ _ _).moved g2 hub (.inr fun g hg => by simp [hg])
  have hl : LogOK x.base w → LogOK x.base w7 := fun hl => hl.moved g2 (fun e => by simp at e) (fun e => by simp at e) (fun e => by simp at e) (fun e => by simp at e)
  have hS : Typed w u.ownBlock.toList [34] := by
    intro g hg
    obtain ⟨_, cu, hc⟩ := owns_block hu g (by simpa using hg)
    exact ⟨_, _, _, hc, by simp⟩
  have ne : ∀ {b : Nat} {cur : Array Value} {t : TypeId}, w.heap[b]? = some (.cells cur t (0, 0)) → t ∉ [34] → b ∉ u.ownBlock.toList := by
    intro b cur t hb ht hk
    obtain ⟨c, t', f, e, h'⟩ := hS b hk
    rw [hb] at e
    simp only [Option.some.injEq, Obj.cells.injEq] at e
    exact ht (e.2.1 ▸ h')
  obtain ⟨⟨c1, t1⟩, ⟨c2, t2⟩, ⟨c3, t3⟩, ⟨c4, t4⟩, ⟨c5, t5⟩, ⟨c6, t6⟩, ⟨c7, t7⟩⟩ := h.types
  obtain ⟨l, scr, hw⟩ := h.wk
  obtain ⟨_, ce, te, _⟩ := h.Z
  have hw7 : Recs x.base w7 v' (ws ++ [r]) := by
    unfold Recs
    simpa [recCells] using g1
  have hvk : ∀ g, v.ownBlock = some g → w7.heap[g]? = w.heap[g]? := by
    intro g hg
    obtain ⟨_, cu, hc⟩ := owns_block hr g hg
    refine (hf.same hc (fun hk => ?_) (by simp)).trans hc.symm
    exact hdis g (by simpa using hk) hg
  refine ⟨h.st, ⟨l, scr, hw.fr hf (hl hw.ok) (ne t1 (by simp)) (ne t2 (by simp)) (ne t4 (by simp)) (ne t3 (by simp)) (by simp) (by simp) (by simp)⟩, h.hs, h.D.fr hf (ne t5 (by simp)) (by simp), h.dl, h.Z.fr hf (ne te (by simp)) (by simp), h.fQ hf hS (by simp) (by simp) (by simp) (by simp), h.ql, h.qb,
    ⟨v, hf.same hC (ne hC (by simp)) (by simp), owns_same hr hvk, hbC, hw7, fun g hg hg2 => ?_⟩, h.fTab hf, h.pos, h.fMok hf hS (by simp) (by simp), h.fLow hf⟩
  rcases g2 with ⟨rfl, _⟩ | ⟨k', n, n', cp, _, _, rfl, rfl, _⟩ | ⟨n', cp, _, rfl, _⟩
  · exact hdis g hg hg2
  · exact hdis g hg hg2
  · simp only [Value.ownBlock, Option.some.injEq] at hg
    obtain ⟨_, cu, hc⟩ := owns_block hr g hg2
    have := (Array.getElem?_eq_some_iff.1 hc).1
    omega

/-- A record is appended to those that are wanted. -/
theorem wp_append_rec {o : Oper} {a : Act} {K : Act → World → Prop} {Q : Exit → Act → World → Prop} (sl y : Operand)
    (ho : o.op = .call { callee := .builtin .append, args := #[sl, y], argTypes := #[25, 25] }) (x : Cx) (X : World) (g : Nat) (barred : Bool) (k : Nat) (u : Value) (ws : List (Nat × Int)) (σ : PS) (p : Nat) (q : Int) (h : Al x X barred k u ws σ) (hl : ws.length ≤ 1000000)
    (hs : a.eval sl = u) (hy : a.eval y = .slice (some ⟨g, 0, none⟩) 1 1) (hg : X.heap[g]? = some (.cells #[.int .i64 p, .int .u64 q] 34 (0, 0))) (hK : ∀ v' w', Al x w' barred k v' (ws ++ [(p, q)]) σ → K (a.put o.dst v') w') : o.wp Ybaf.prog a X K Q := by
  obtain ⟨i0, hi, hz, hz1, hz2⟩ := info_split Ybaf.info34
  obtain ⟨_, _, _, _, hu, _⟩ := h.cb
  refine wp_append_sure X sl y 25 ho x.base 34 i0 _ 2 16 Ybaf.underlying25 hi hz hz1 hz2 rfl u ws.length _ hs hu _ 1 (recCells (p, q)) hy ⟨rfl, ?_, .inr ⟨_, _, rfl, World.news_of_block hg⟩⟩ (by omega) (by omega) h.size ?_
  · intro v hv
    simp [recCells] at hv
    rcases hv with rfl | rfl <;> rfl
  · intro v' w' g1 g2
    exact hK v' w' (h.want g1 g2)
theorem wpList_append_rec {ops : Array Oper} {rest : List Oper} {o : Oper} {a : Act} {Q : Exit → Act → World → Prop} (hgd : o.guard = none) (sl y : Operand)
    (ho : o.op = .call { callee := .builtin .append, args := #[sl, y], argTypes := #[25, 25] }) (x : Cx) (W : World) (barred : Bool) (k : Nat) (u : Value) (ws : List (Nat × Int)) (σ : PS) (p : Nat) (q : Int) (h : Al x W barred k u ws σ) (hl : ws.length ≤ 1000000)
    (hs : a.eval sl = u) (hy : a.eval y = .slice (some ⟨W.heap.size, 0, none⟩) 1 1) (hK : ∀ v' w', Al x w' barred k v' (ws ++ [(p, q)]) σ → wpList Ybaf.prog ops Q rest (a.put o.dst v') w') : wpList Ybaf.prog ops Q (o :: rest) a (W.alloc (.cells #[.int .i64 p, .int .u64 q] 34)) :=
  wpList_plain hgd fun _ hK' => wp_append_rec sl y ho x _ W.heap.size barred k u ws σ p q (h.alloc _ _ (by simp)) hl hs hy (heap_alloc_new W _) fun v' w' h2 => hK' _ _ (hK v' w' h2)

theorem step4j (x : Cx) (fifo : Bool) (k j : Nat) (A : Msg) (σ : PS) (hx : x.fifo = fifo) (hs : x.s.self = 0) (hA : x.al A = [(2, (k : Int), 1)]) (hAp : A.p = 1) (hAq : A.q = 1) (hm : x.al (mTwo j) = []) (h1 : 1 ≤ j) (h : Ok4 fifo k (j - 1) A σ) :
    Ok4 fifo k j A (takeF x false σ (mTwo j)) ∧ (takeF x false σ (mTwo j)).rs = σ.rs ++ [(2, (j : Int))] ++ (if fifo = false ∧ j = k then [(1, 1)] else []) ∧ Room σ (mTwo j) := by
  obtain ⟨t, rfl⟩ : ∃ t, j = t + 1 := ⟨j - 1, by omega⟩
  exact step4 x fifo k t A σ hx hs hA hAp hAq hm h
theorem mTwo_ok (x : Cx) (w : World) (j : Nat) (hm : x.al (mTwo j) = []) (hn : x.s.n = 3) (hj : j ≤ 1000) : MOK x w (mTwo j) := by
  refine ⟨by rw [hm]; rfl, by simp [mTwo], ?_, by rw [hm]; simp, by rw [hn]; simp [mTwo], by simp [mTwo]; omega⟩
  rw [hm]
  exact Ents.nil w none 0

end Go.Proofs.YbulkbobqFmt
