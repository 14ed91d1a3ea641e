/-
  The Orderer in memory; entries on a message; the appends to a log.
-/
import Derived.Test.YbulkbobqFmtComp
namespace Go.Proofs.YbulkbobqFmt
open Go.RowKit

/-- What stays as it is in an Orderer: where its rows lie. -/
structure OS where
  self : Nat
  n : Nat
  L : Nat
  cL : Nat
  K : Nat
  cK : Nat
  D : Nat
  cD : Nat
  P : Nat
  cP : Nat
  H : Nat
  cH : Nat
  E : Nat
  cE : Nat
  v6 : Value
  v7 : Value
  v9 : Value
  v10 : Value
  v17 : Value
  v18 : Value
  v19 : Value
  v20 : Value
  v21 : Value
  v22 : Value
  v23 : Value

def sl (b n c : Nat) : Value := .slice (some ⟨b, 0, none⟩) n c

/-- The Orderer's cells. -/
def ordL (s : OS) (logged holding holders : Int) (scr : Value) (fifo barred : Bool) : List Value :=
  [.int .i64 s.self, .int .i64 s.n, .int .u64 0, sl s.L s.n s.cL, .int .u64 logged, sl s.K s.n s.cK, s.v6, s.v7, sl s.D s.n s.cD, s.v9, s.v10, sl s.P s.n s.cP, .int .i64 holding, .int .u64 holders, scr, .bool fifo, sl s.H s.n s.cH,
   s.v17, s.v18, s.v19, s.v20, s.v21, s.v22, s.v23, .int .u64 0, sl s.E s.n s.cE, .bool barred]

def Ob (w : World) (O : Nat) (s : OS) (logged holding holders : Int) (scr : Value) (fifo barred : Bool) : Prop :=
  w.heap[O]? = some (.cells (ordL s logged holding holders scr fifo barred).toArray 57 (0, 0))

section
variable {w w' : World} {O : Nat} {s : OS} {logged holding holders : Int} {scr : Value} {fifo barred : Bool}
theorem Ob.at (h : Ob w O s logged holding holders scr fifo barred) (i : Nat) : w.cell? ⟨O, i, none⟩ = (ordL s logged holding holders scr fifo barred)[i]? := by
  unfold Ob at h
  simp [World.cell?, h]
theorem Ob.free (h : Ob w O s logged holding holders scr fifo barred) (o : Nat) : w.frozen? ⟨O, o, none⟩ = false := by unfold Ob at h; simp [World.frozen?, h]
theorem Ob.lt (h : Ob w O s logged holding holders scr fifo barred) : O < w.heap.size := (Array.getElem?_eq_some_iff.1 h).1
theorem Ob.same (h : Ob w O s logged holding holders scr fifo barred) (he : w'.heap[O]? = w.heap[O]?) : Ob w' O s logged holding holders scr fifo barred := he.trans h
theorem Ob.fr {base : Nat} {S T : List Nat} (h : Ob w O s logged holding holders scr fifo barred) (hf : Fr base S T w w') (hO : O ∉ S) (hT : 57 ∉ T) : Ob w' O s logged holding holders scr fifo barred := hf.same h hO hT
theorem Ob.setLogged (h : Ob w O s logged holding holders scr fifo barred) (z : Int) : Ob (w.setCell ⟨O, 4, none⟩ (.int .u64 z)) O s z holding holders scr fifo barred := by
  unfold Ob at h ⊢
  rw [setCell_eq_setRow w O 4 _ 57 (0, 0) _ h, setRow_heap w O _ _ 57 (0, 0) h]
  simp [ordL]
theorem Ob.setHolding (h : Ob w O s logged holding holders scr fifo barred) (z : Int) : Ob (w.setCell ⟨O, 12, none⟩ (.int .i64 z)) O s logged z holders scr fifo barred := by
  unfold Ob at h ⊢
  rw [setCell_eq_setRow w O 12 _ 57 (0, 0) _ h, setRow_heap w O _ _ 57 (0, 0) h]
  simp [ordL]
theorem Ob.setHolders (h : Ob w O s logged holding holders scr fifo barred) (z : Int) : Ob (w.setCell ⟨O, 13, none⟩ (.int .u64 z)) O s logged holding z scr fifo barred := by
  unfold Ob at h ⊢
  rw [setCell_eq_setRow w O 13 _ 57 (0, 0) _ h, setRow_heap w O _ _ 57 (0, 0) h]
  simp [ordL]
theorem Ob.setScr (h : Ob w O s logged holding holders scr fifo barred) (z : Value) : Ob (w.setCell ⟨O, 14, none⟩ z) O s logged holding holders z fifo barred := by
  unfold Ob at h ⊢
  rw [setCell_eq_setRow w O 14 _ 57 (0, 0) _ h, setRow_heap w O _ _ 57 (0, 0) h]
  simp [ordL]
theorem Ob.setFifo (h : Ob w O s logged holding holders scr fifo barred) (z : Bool) : Ob (w.setCell ⟨O, 15, none⟩ (.bool z)) O s logged holding holders scr z barred := by
  unfold Ob at h ⊢
  rw [setCell_eq_setRow w O 15 _ 57 (0, 0) _ h, setRow_heap w O _ _ 57 (0, 0) h]
  simp [ordL]
theorem Ob.setBarred (h : Ob w O s logged holding holders scr fifo barred) (z : Bool) : Ob (w.setCell ⟨O, 26, none⟩ (.bool z)) O s logged holding holders scr fifo z := by
  unfold Ob at h ⊢
  rw [setCell_eq_setRow w O 26 _ 57 (0, 0) _ h, setRow_heap w O _ _ 57 (0, 0) h]
  simp [ordL]
end

/-- The entries that a message carries: sender, number, pending. -/
def Ents (w : World) (v : Value) (es : List (Nat × Int × Int)) : Prop :=
  (∀ e ∈ es, e.1 < 64 ∧ 0 ≤ e.2.1 ∧ e.2.1 < 18446744073709551616 ∧ 0 ≤ e.2.2 ∧ e.2.2 < 18446744073709551616) ∧ ∃ a c, v = .slice a es.length c ∧ es.length ≤ c ∧
  (es = [] ∨ ∃ (b off : Nat) (cur : Array Value) (fr : Nat × Nat), a = some ⟨b, off, none⟩ ∧ w.heap[b]? = some (.cells cur 46 fr) ∧
    ∀ j (h : j < es.length), w.cell? ⟨b, off + j * 3, none⟩ = some (.int .i64 es[j].1) ∧ w.cell? ⟨b, off + j * 3 + 1, none⟩ = some (.int .u64 es[j].2.1) ∧ w.cell? ⟨b, off + j * 3 + 2, none⟩ = some (.int .u64 es[j].2.2))

theorem Ents.fr {base : Nat} {S T : List Nat} {w w' : World} {v : Value} {es : List (Nat × Int × Int)} (h : Ents w v es) (hf : Fr base S T w w') (hT : 46 ∉ T) (hS : ∀ k, k ∈ S → ∃ (cur : Array Value) (t : TypeId) (fr : Nat × Nat), w.heap[k]? = some (.cells cur t fr) ∧ t ≠ 46) : Ents w' v es := by
  obtain ⟨h1, a, c, hv, hc, h2⟩ := h
  refine ⟨h1, a, c, hv, hc, ?_⟩
  rcases h2 with h2 | ⟨b, off, cur, fr, ha, hg, hcell⟩
  · exact .inl h2
  · have hb : b ∉ S := fun hk => by
      obtain ⟨c', t', f', g', ne⟩ := hS b hk
      rw [hg] at g'
      cases g'
      exact ne rfl
    have e := hf.same hg hb hT
    refine .inr ⟨b, off, cur, fr, ha, e, fun j hj => ?_⟩
    have hh : w'.heap[b]? = w.heap[b]? := e.trans hg.symm
    obtain ⟨c1, c2, c3⟩ := hcell j hj
    exact ⟨(World.cell?_of_block (a := ⟨b, _, none⟩) hh).trans c1, (World.cell?_of_block (a := ⟨b, _, none⟩) hh).trans c2, (World.cell?_of_block (a := ⟨b, _, none⟩) hh).trans c3⟩

theorem Ybaf.info70 : (Ybaf.prog.info? 70).map (fun i => (i.zero, i.size, i.bytes)) = some (some (.agg #[.int .u64 0, .int .u64 0]), 2, 16) := by kernel_rfl

theorem info_split {P : Program} {t : TypeId} {z : Value} {s b : Nat} (h : (P.info? t).map (fun i => (i.zero, i.size, i.bytes)) = some (some z, s, b)) : ∃ i, P.info? t = some i ∧ i.zero = some z ∧ i.size = s ∧ i.bytes = b := by
  cases hi : P.info? t with
  | none => rw [hi] at h; cases h
  | some i =>
    rw [hi] at h
    simp only [Option.map_some, Option.some.injEq, Prod.mk.injEq] at h
    exact ⟨i, rfl, h.1, h.2.1, h.2.2⟩

/-- 'append(out, e)', e laid in a block of its own. -/
theorem wpList_append_log {ops : Array Oper} {rest : List Oper} {o : Oper} {a : Act} {Q : Exit → Act → World → Prop} (hgd : o.guard = none) (s x : Operand)
    (ho : o.op = .call { callee := .builtin .append, args := #[s, x], argTypes := #[52, 52] })
    (base N g : Nat) (out : Value) (W : World) (p q : Int) (hs : a.eval s = out) (hx : a.eval x = .slice (some ⟨g, 0, none⟩) 1 1) (hg : g = W.heap.size) (hsl : LogSl base N W out) (hok : LogOK base W)
    (hp : 0 ≤ p ∧ p < 18446744073709551616) (hq : 0 ≤ q ∧ q < 18446744073709551616) (hN : N ≤ 1000000) (hb : base ≤ W.heap.size)
    (h : ∀ v' w', LogSl base (N + 1) w' v' → LogOK base w' → (∀ (S : List Nat) (w0 : World), Fr base S [70] w0 W → Fr base S [70] w0 w') → wpList Ybaf.prog ops Q rest (a.put o.dst v') w') :
    wpList Ybaf.prog ops Q (o :: rest) a (W.alloc (.cells #[.int .u64 p, .int .u64 q] 70)) := by
  subst hg
  obtain ⟨i, hi, hz, hz1, hz2⟩ := info_split Ybaf.info70
  obtain ⟨n, xs, hown, hn, hu, _⟩ := hsl.owns hok
  have hpq : ∀ u ∈ [Value.int .u64 p, Value.int .u64 q], isU u := by
    intro u hu
    simp at hu
    rcases hu with rfl | rfl
    · exact isU_int hp.1 hp.2
    · exact isU_int hq.1 hq.2
  have hok' : LogOK base (W.alloc (.cells #[.int .u64 p, .int .u64 q] 70)) := hok.alloc _ _ fun _ u hu => hpq u (by simpa using hu)
  refine wpList_append_sure _ hgd s x 52 ho base 70 i _ 2 16 Ybaf.underlying52 hi hz hz1 hz2 rfl out n xs hs (hown.alloc _) _ 1 [.int .u64 p, .int .u64 q] hx ⟨rfl, fun u hu => (hpq u hu).one, .inr ⟨_, _, rfl, ?_⟩⟩ (by omega) (by omega) (by simp; omega) ?_
  · intro j u hu
    match j, hu with
    | 0, hu => simp at hu; subst hu; simp [Addr.add]
    | 1, hu => simp at hu; subst hu; simp [Addr.add]
  · intro v' w' ho' hm
    have hbg : ∀ g, out.ownBlock = some g → base ≤ g := fun g hg => (hown.lt g hg).1
    refine h v' w' (LogSl.ofOwns ho' (by omega)) (hok'.moved hm (fun _ => hbg) (fun _ => hu) (fun _ => hpq) (fun _ u hu => ?_)) fun S w0 hf => (hf.alloc _).moved hm hbg (.inl (by simp))
    simp [Value.cells] at hu
    subst hu
    exact isU_int (by omega) (by omega)

/-- 'append(es, out...)', both logs. -/
theorem wpList_append_logs {ops : Array Oper} {rest : List Oper} {o : Oper} {a : Act} {Q : Exit → Act → World → Prop} (hgd : o.guard = none) (s x : Operand)
    (ho : o.op = .call { callee := .builtin .append, args := #[s, x], argTypes := #[52, 52] })
    (base N M : Nat) (es out : Value) (W : World) (hs : a.eval s = es) (hx : a.eval x = out) (hsl : LogSl base N W es) (hsl2 : LogSl base M W out) (hok : LogOK base W)
    (hN : N ≤ 1000000) (hM : M ≤ 1000000) (hb : base ≤ W.heap.size)
    (h : ∀ v' w', LogSl base (N + M) w' v' → LogOK base w' → (∀ (S : List Nat) (w0 : World), Fr base S [70] w0 W → Fr base S [70] w0 w') → wpList Ybaf.prog ops Q rest (a.put o.dst v') w') :
    wpList Ybaf.prog ops Q (o :: rest) a W := by
  obtain ⟨i, hi, hz, hz1, hz2⟩ := info_split Ybaf.info70
  obtain ⟨n, xs, hown, hn, hu, _⟩ := hsl.owns hok
  obtain ⟨m, ys, hown2, hm, hu2, a2, c2, rfl⟩ := hsl2.owns hok
  refine wpList_append_sure _ hgd s x 52 ho base 70 i _ 2 16 Ybaf.underlying52 hi hz hz1 hz2 rfl es n xs hs hown _ m ys hx ⟨hown2.1, fun u hu => (hu2 u hu).one, ?_⟩ (by omega) (by omega) hb ?_
  · cases a2 with
    | none =>
      rcases hown2.2 with ⟨h1, h2⟩ | ⟨_, _, _, h1, _⟩
      · exact .inl ⟨h1, h2⟩
      · simp at h1
    | some ad =>
      refine .inr ⟨ad, c2, rfl, ?_⟩
      rcases hown2.2 with ⟨h1, h2⟩ | ⟨g, cap, cur, h1, _⟩
      · simp at h1
      · simp only [Value.slice.injEq, Option.some.injEq, true_and] at h1
        obtain ⟨rfl, rfl⟩ := h1
        exact hown2.cells (g := g) rfl
  · intro v' w' ho' hmv
    have hbg : ∀ g, es.ownBlock = some g → base ≤ g := fun g hg => (hown.lt g hg).1
    refine h v' w' (LogSl.ofOwns ho' (by omega)) (hok.moved hmv (fun _ => hbg) (fun _ => hu) (fun _ => hu2) (fun _ u hu => ?_)) fun S w0 hf => hf.moved hmv hbg (.inl (by simp))
    simp [Value.cells] at hu
    subst hu
    exact isU_int (by omega) (by omega)

/-- 'es[:0]'. -/
theorem log_cut {base N : Nat} {w : World} {v : Value} (h : LogSl base N w v) : ∃ a c, (∀ W : World, (Instr.slice 52 v none (some (.int .i64 0)) none).run Ybaf.prog W = .ok (.slice a 0 c) W) ∧ LogSl base 0 w (.slice a 0 c) := by
  rcases h with rfl | ⟨b, n, c, cur, rfl, h2, h3, h4, h5, h6, h7⟩
  · exact ⟨none, 0, fun W => by go_simp, .inl rfl⟩
  · refine ⟨some ⟨b, 0, none⟩, c, fun W => ?_, .inr ⟨b, 0, c, cur, rfl, h2, h3, by omega, h5, h6, by omega⟩⟩
    rw [run_slice_h (P := Ybaf.prog) W 52 _ n c Ybaf.underlying52 .i64 0 (by omega) (by omega)]
    go_simp

end Go.Proofs.YbulkbobqFmt
