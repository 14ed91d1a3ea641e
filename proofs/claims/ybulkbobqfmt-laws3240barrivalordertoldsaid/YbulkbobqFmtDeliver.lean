/-
  The contract of deliver.
-/
import Derived.Test.YbulkbobqFmtBits
import Derived.Deep.Cut
import Derived.Deep.CutRange
import Derived.Deep.CutBlock
namespace Go.Proofs.YbulkbobqFmt
open Go.RowKit

/-- The cells of a message. -/
def msgA (p : Nat) (sq tg : Int) (ev : Value) : Array Value := #[.int .i64 p, .int .u64 sq, .int .u64 tg, ev, .int .u64 0, .slice none 0 0, .slice none 0 0, .bool false]

/-- A row of known uint64s. -/
def Drow (w : World) (b : Nat) (ds : List Int) : Prop := (∀ z ∈ ds, 0 ≤ z ∧ z < 18446744073709551616) ∧ ∃ cur : Array Value, w.heap[b]? = some (.cells cur 26 (0, 0)) ∧ ∀ i (h : i < ds.length), cur[i]? = some (.int .u64 ds[i])

theorem Drow.fr {base b : Nat} {S T : List Nat} {w w' : World} {ds : List Int} (h : Drow w b ds) (hf : Fr base S T w w') (hS : b ∉ S) (hT : 26 ∉ T) : Drow w' b ds := by
  obtain ⟨h0, cur, h1, h2⟩ := h
  exact ⟨h0, cur, hf.same h1 hS hT, h2⟩
theorem Drow.cell {b : Nat} {w : World} {ds : List Int} (h : Drow w b ds) (i : Nat) (hi : i < ds.length) : w.cell? ⟨b, i, none⟩ = some (.int .u64 ds[i]) ∧ w.frozen? ⟨b, i, none⟩ = false := by
  obtain ⟨h0, cur, h1, h2⟩ := h
  refine ⟨?_, by simp [World.frozen?, h1]⟩
  simp only [World.cell?, h1]; rw [h2 i hi]; rfl
theorem Drow.set {base b : Nat} {w : World} {ds : List Int} (h : Drow w b ds) (i : Nat) {z : Int} (h0 : 0 ≤ z) (h1 : z < 18446744073709551616) (hb : base ≤ b) :
    Drow (w.setCell ⟨b, i, none⟩ (.int .u64 z)) b (ds.set i z) ∧ (LogOK base w → LogOK base (w.setCell ⟨b, i, none⟩ (.int .u64 z))) ∧ Fr base [b] [] w (w.setCell ⟨b, i, none⟩ (.int .u64 z)) := by
  obtain ⟨g0, cur, g1, g2⟩ := h
  refine ⟨⟨fun v hv => ?_, cur.setIfInBounds i (.int .u64 z), ?_, fun j hj => ?_⟩, fun hl => hl.setCell g1 _ fun e => by simp at e, (Fr.refl _ _ _ _).setCell g1 _ hb (.inl (by simp))⟩
  · rcases List.mem_or_eq_of_mem_set hv with hv | rfl
    · exact g0 v hv
    · exact ⟨h0, h1⟩
  · rw [setCell_eq_setRow w b i cur 26 (0, 0) _ g1, setRow_heap w b _ _ _ _ g1]
  · have hj' : j < ds.length := by simpa using hj
    have hc := g2 j hj'
    have hlt : j < cur.size := (Array.getElem?_eq_some_iff.1 hc).1
    by_cases e : j = i
    · subst e
      rw [Array.getElem?_setIfInBounds_self_of_lt hlt]
      simp
    · rw [Array.getElem?_setIfInBounds_ne (by omega), hc]
      simp [Ne.symm e]

section
variable {base O N : Nat} {s : OS} {w : World} {l : Nat} {holding holders : Int} {scr : Value} {fifo barred : Bool}
theorem Wk.setP (h : Wk base O N s w l holding holders scr fifo barred) (hS : Stat base O s) {cur cs : Array Value} (hg : w.heap[s.P]? = some (.cells cur 26 (0, 0))) (hsz : cs.size = cur.size) (hu : ∀ v ∈ cs.toList, isU v) (hn : s.n ≤ cur.size) :
    Wk base O N s (w.setRow s.P cs) l holding holders scr fifo barred ∧ Fr base [s.P] [] w (w.setRow s.P cs) := by
  have hf : Fr base [s.P] [] w (w.setRow s.P cs) := (Fr.refl _ _ _ _).setRow hg hsz hS.bP (.inl (by simp))
  exact ⟨⟨h.ob.fr hf (by simp; exact hS.OP) (by simp), h.hl, h.scr.fr hf, h.ok.setRow hg (fun e => by simp at e), h.L.fr hf (by simp; exact hS.LP) (by simp), h.K.fr hf (by simp; exact hS.KP) (by simp), ⟨cs, setRow_heap w _ _ _ _ _ hg, by omega, hu⟩⟩, hf⟩
theorem Wk.setPc (h : Wk base O N s w l holding holders scr fifo barred) (hS : Stat base O s) (i : Nat) {z : Int} (h0 : 0 ≤ z) (h1 : z < 18446744073709551616) :
    Wk base O N s (w.setCell ⟨s.P, i, none⟩ (.int .u64 z)) l holding holders scr fifo barred ∧ Fr base [s.P] [] w (w.setCell ⟨s.P, i, none⟩ (.int .u64 z)) := by
  obtain ⟨h2, h3, hf⟩ := h.P.set (base := base) i h0 h1 hS.bP
  exact ⟨⟨h.ob.fr hf (by simp; exact hS.OP) (by simp), h.hl, h.scr.fr hf, h3 h.ok, h.L.fr hf (by simp; exact hS.LP) (by simp), h.K.fr hf (by simp; exact hS.KP) (by simp), h2⟩, hf⟩
theorem Wk.setKc (h : Wk base O N s w l holding holders scr fifo barred) (hS : Stat base O s) (i : Nat) {z : Int} (h0 : 0 ≤ z) (h1 : z < 18446744073709551616) :
    Wk base O N s (w.setCell ⟨s.K, i, none⟩ (.int .u64 z)) l holding holders scr fifo barred ∧ Fr base [s.K] [] w (w.setCell ⟨s.K, i, none⟩ (.int .u64 z)) := by
  obtain ⟨h2, h3, hf⟩ := h.K.set (base := base) i h0 h1 hS.bK
  exact ⟨⟨h.ob.fr hf (by simp; exact hS.OK) (by simp), h.hl, h.scr.fr hf, h3 h.ok, h.L.fr hf (by simp; exact hS.LK) (by simp), h2, h.P.fr hf (by simp; exact Ne.symm hS.KP) (by simp)⟩, hf⟩
theorem Wk.alloc (h : Wk base O N s w l holding holders scr fifo barred) (cur : Array Value) (t : TypeId) (ht : t = 70 → ∀ v ∈ cur.toList, isU v) : Wk base O N s (w.alloc (.cells cur t)) l holding holders scr fifo barred :=
  h.fr ((Fr.refl base [] [] w).alloc _) (h.ok.alloc _ _ ht) (by simp) (by simp) (by simp) (by simp) (by simp) (by simp) (by simp)
end

/-- The state inside deliver, up to the end of its loop over the senders. -/
structure Dv (base O N : Nat) (s : OS) (w0 w : World) (l : Nat) (holding holders : Int) (scr : Value) (fifo barred : Bool) (M : Nat) (p : Nat) (sq tg : Int) (ev : Value) : Prop where
  wk : Wk base O N s w l holding holders scr fifo barred
  m : w.heap[M]? = some (.cells (msgA p sq tg ev) 32 (0, 0))
  fr : Fr base [O, s.L, s.P] [70] w0 w

section
variable {base O N : Nat} {s : OS} {w0 w w' : World} {l : Nat} {holding holders : Int} {scr : Value} {fifo barred : Bool} {M p : Nat} {sq tg : Int} {ev : Value}
theorem Dv.mc (h : Dv base O N s w0 w l holding holders scr fifo barred M p sq tg ev) :
    w.cell? ⟨M, 0, none⟩ = some (.int .i64 p) ∧ w.cell? ⟨M, 1, none⟩ = some (.int .u64 sq) ∧ w.cell? ⟨M, 2, none⟩ = some (.int .u64 tg) ∧ w.cell? ⟨M, 3, none⟩ = some ev ∧ w.cell? ⟨M, 5, none⟩ = some (.slice none 0 0) := by
  refine ⟨?_, ?_, ?_, ?_, ?_⟩ <;> simp [World.cell?, h.m, msgA]
/-- A step that turns only what is listed. -/
theorem Dv.step {l' : Nat} {scr' : Value} {N' : Nat} {S : List Nat} (h : Dv base O N s w0 w l holding holders scr fifo barred M p sq tg ev) (hw : Wk base O N' s w' l' holding holders scr' fifo barred) (hf : Fr base S [70] w w')
    (hS : ∀ k, k ∈ S → k = O ∨ k = s.L ∨ k = s.P) (hM : M ∉ S) : Dv base O N' s w0 w' l' holding holders scr' fifo barred M p sq tg ev :=
  ⟨hw, hf.same h.m hM (by simp), h.fr.trans (hf.wider (fun k hk => by have := hS k hk; simpa using this) (by simp))⟩
theorem Dv.apart (h : Dv base O N s w0 w l holding holders scr fifo barred M p sq tg ev) : M ≠ O ∧ M ≠ s.L ∧ M ≠ s.P ∧ M ≠ s.K := by
  obtain ⟨_, h1, _⟩ := h.wk.L
  obtain ⟨_, h2, _⟩ := h.wk.P
  obtain ⟨_, h3, _⟩ := h.wk.K
  have h4 := h.wk.ob
  unfold Ob at h4
  refine ⟨?_, ?_, ?_, ?_⟩
  · intro e; subst e; rw [h.m] at h4; simp at h4
  · intro e; rw [← e, h.m] at h1; simp at h1
  · intro e; rw [← e, h.m] at h2; simp at h2
  · intro e; rw [← e, h.m] at h3; simp at h3
theorem Tab.fr {S T : List Nat} (h : Tab w) (hf : Fr base S T w w') (h0 : 0 < base) (hs : 0 < w.heap.size) : Tab w' := fun j hj => (World.cell?_of_block (a := ⟨0, j, none⟩) (hf.block 0 hs (.inl h0))).trans (h j hj)
end

theorem Ents.nil (w : World) (a : Option Addr) (c : Nat) : Ents w (.slice a 0 c) [] := ⟨by simp, a, c, rfl, Nat.zero_le _, .inl rfl⟩
theorem Ents.pre {w : World} {a : Option Addr} {ml c : Nat} {al : List (Nat × Int × Int)} (h : Ents w (.slice a ml c) al) (hl : al.length = ml) (i : Nat) (hi : i ≤ ml) : Ents w (.slice a i c) (al.take i) := by
  obtain ⟨h1, a', c', hv, hc, h2⟩ := h
  simp only [Value.slice.injEq] at hv
  obtain ⟨rfl, _, rfl⟩ := hv
  have hli : (al.take i).length = i := by simp; omega
  refine ⟨fun e he => h1 e (List.mem_of_mem_take he), a, c, by rw [hli], by rw [hli]; omega, ?_⟩
  rcases h2 with rfl | ⟨b, off, cur, fr, rfl, hg, hcell⟩
  · exact .inl (by simp)
  · refine .inr ⟨b, off, cur, fr, rfl, hg, fun j hj => ?_⟩
    have := hcell j (by simp at hj; omega)
    simpa using this
theorem Ents.post {w : World} {b off ml c : Nat} {al : List (Nat × Int × Int)} (h : Ents w (.slice (some ⟨b, off, none⟩) ml c) al) (hl : al.length = ml) (i : Nat) (hi : i ≤ ml) : Ents w (.slice (some ⟨b, off + i * 3, none⟩) (ml - i) (c - i)) (al.drop i) := by
  obtain ⟨h1, a', c', hv, hc, h2⟩ := h
  simp only [Value.slice.injEq] at hv
  obtain ⟨rfl, _, rfl⟩ := hv
  have hli : (al.drop i).length = ml - i := by simp; omega
  refine ⟨fun e he => h1 e (List.mem_of_mem_drop he), _, _, by rw [hli], by rw [hli]; omega, ?_⟩
  rcases h2 with rfl | ⟨b', off', cur, fr, hb, hg, hcell⟩
  · exact .inl (by simp)
  · simp only [Option.some.injEq, Addr.mk.injEq, and_true] at hb
    obtain ⟨rfl, rfl⟩ := hb
    refine .inr ⟨b, off + i * 3, cur, fr, rfl, hg, fun j hj => ?_⟩
    have := hcell (i + j) (by simp at hj; omega)
    rw [show off + (i + j) * 3 = off + i * 3 + j * 3 from by omega] at this
    simpa using this

/-- 'append(out, e)' at the operation, at whatever world in which e lies in a block of its own. -/
theorem wp_append_logX {o : Oper} {a : Act} {K : Act → World → Prop} {Q : Exit → Act → World → Prop} (sl x : Operand)
    (ho : o.op = .call { callee := .builtin .append, args := #[sl, x], argTypes := #[52, 52] })
    (base N g : Nat) (out : Value) (X : World) (p q : Int) (hs : a.eval sl = out) (hx : a.eval x = .slice (some ⟨g, 0, none⟩) 1 1) (hg : X.heap[g]? = some (.cells #[.int .u64 p, .int .u64 q] 70 (0, 0))) (hsl : LogSl base N X out) (hok : LogOK base X)
    (hp : 0 ≤ p ∧ p < 18446744073709551616) (hq : 0 ≤ q ∧ q < 18446744073709551616) (hN : N ≤ 1000000) (hb : base ≤ X.heap.size)
    (h : ∀ v' w', LogSl base (N + 1) w' v' → LogOK base w' → (∀ (S : List Nat) (w0 : World), Fr base S [70] w0 X → Fr base S [70] w0 w') → K (a.put o.dst v') w') : o.wp Ybaf.prog a X K Q := by
  obtain ⟨i, hi, hz, hz1, hz2⟩ := info_split Ybaf.info70
  obtain ⟨n, xs, hown, hn, hu, _⟩ := hsl.owns hok
  have hpq : ∀ u ∈ [Value.int .u64 p, Value.int .u64 q], isU u := by
    intro u hu
    simp at hu
    rcases hu with rfl | rfl
    · exact isU_int hp.1 hp.2
    · exact isU_int hq.1 hq.2
  refine wp_append_sure X sl x 52 ho base 70 i _ 2 16 Ybaf.underlying52 hi hz hz1 hz2 rfl out n xs hs hown _ 1 [.int .u64 p, .int .u64 q] hx ⟨rfl, fun u hu => (hpq u hu).one, .inr ⟨_, _, rfl, ?_⟩⟩ (by omega) (by omega) hb ?_
  · intro j u hu
    have hadd : (⟨g, 0, none⟩ : Addr).add j = ⟨g, j, none⟩ := by unfold Addr.add; split <;> simp_all
    rw [hadd, cell_of_row X g j _ 70 _ hg]
    simpa using hu
  · intro v' w' ho' hm
    have hbg : ∀ g, out.ownBlock = some g → base ≤ g := fun g hg => (hown.lt g hg).1
    refine h v' w' (LogSl.ofOwns ho' (by omega)) (hok.moved hm (fun _ => hbg) (fun _ => hu) (fun _ => hpq) (fun _ u hu => ?_)) fun S w0 hf => hf.moved hm hbg (.inl (by simp))
    simp [Value.cells] at hu
    subst hu
    exact isU_int (by omega) (by omega)

/-- The same at a step of a region that draws its order. -/
theorem step_append_log {ops : Array Oper} {o : Oper} {a : Act} {K : Act → World → Prop} {Q : Exit → Act → World → Prop} {E : Prop} (hgd : o.guard = none) (sl x : Operand)
    (ho : o.op = .call { callee := .builtin .append, args := #[sl, x], argTypes := #[52, 52] })
    (base N g : Nat) (out : Value) (X : World) (p q : Int) (hs : a.eval sl = out) (hx : a.eval x = .slice (some ⟨g, 0, none⟩) 1 1) (hg : X.heap[g]? = some (.cells #[.int .u64 p, .int .u64 q] 70 (0, 0))) (hsl : LogSl base N X out) (hok : LogOK base X)
    (hp : 0 ≤ p ∧ p < 18446744073709551616) (hq : 0 ≤ q ∧ q < 18446744073709551616) (hN : N ≤ 1000000) (hb : base ≤ X.heap.size)
    (h : ∀ v' w', LogSl base (N + 1) w' v' → LogOK base w' → (∀ (S : List Nat) (w0 : World), Fr base S [70] w0 X → Fr base S [70] w0 w') → K (a.put o.dst v') w') :
    if Region.wanted o (yielded ops a.tmps) = true then Oper.wp Ybaf.prog o a X K Q else E := by
  have hw : Region.wanted o (yielded ops a.tmps) = true := by simp [Region.wanted, hgd]
  rw [if_pos hw]
  exact wp_append_logX sl x ho base N g out X p q hs hx hg hsl hok hp hq hN hb h

/-- What deliver says. -/
def DeliverPost (base O N : Nat) (s : OS) (holding holders : Int) (fifo barred : Bool) (ds : List Int) (p : Nat) (sq : Int) (w : World) (e : Ending) (w' : World) : Prop :=
  e = .returned (.tuple #[]) ∧ (∃ l' scr', Wk base O (N + 16) s w' l' holding holders scr' fifo barred) ∧ Drow w' s.D (ds.set p sq) ∧ Fr base [O, s.L, s.P, s.K, s.D] [70] w w'

set_option maxRecDepth 100000 in
set_option maxHeartbeats 4000000 in
theorem deliver_any (base O N : Nat) (s : OS) (l : Nat) (holding holders : Int) (scr : Value) (fifo barred : Bool) (ds : List Int) (p : Nat) (sq tg : Int) (a : Option Addr) (al : List (Nat × Int × Int)) (w : World)
    (hS : Stat base O s) (hw : Wk base O N s w l holding holders scr fifo barred) (hD : Drow w s.D ds) (hdl : ds.length = s.n) (hT : Tab w) (h0 : 0 < base) (hp : p < s.n) (hsq : 0 ≤ sq ∧ sq < 18446744073709551616)
    (hE : Ents w (.slice a al.length al.length) al) (hal : al.length ≤ 1) (hsd : ∀ e ∈ al, e.1 < s.n) (hN : N ≤ 90000) :
    Calls Ybaf.prog 20 #[.pointer (some ⟨O, 0, none⟩), .agg (msgA p sq tg (.slice a al.length al.length))] w (DeliverPost base O N s holding holders fifo barred ds p sq w) := by
  have h8 := hS.n8
  have hl8 := pow8 _ h8
  unfold msgA
  go_enter Ybaf.func20, Ybaf.ntmps20
  go_upto_region 1 with fail
  have hf1 : Fr base [] [] w (w.alloc (.cells (msgA p sq tg (.slice a al.length al.length)) 32)) := (Fr.refl _ _ _ _).alloc _
  have hm1 : (w.alloc (.cells (msgA p sq tg (.slice a al.length al.length)) 32)).heap[w.heap.size]? = some (.cells (msgA p sq tg (.slice a al.length al.length)) 32 (0, 0)) := heap_alloc_new _ _
  have hw1 := hw.fr hf1 (hw.ok.alloc _ _ fun e => by simp at e) (by simp) (by simp) (by simp) (by simp) (by simp) (by simp) (by simp)
  have hE1 := hE.fr hf1 (by simp) (by simp)
  have hD1 := hD.fr hf1 (by simp) (by simp)
  unfold msgA at hf1 hm1 hw1 hE1 hD1
  generalize hW : w.alloc (.cells #[.int .i64 p, .int .u64 sq, .int .u64 tg, .slice a al.length al.length, .int .u64 0, .slice none 0 0, .slice none 0 0, .bool false] 32) = W at *
  generalize hM : w.heap.size = M at *
  clear hW
  obtain ⟨curP, hgP, hsP, hUP⟩ := id hw1.P
  have q11 : W.cell? ⟨O, 11, none⟩ = some (.slice (some ⟨s.P, 0, none⟩) s.n s.cP) := hw1.ob.at 11
  have mc : ∀ i, W.cell? ⟨M, i, none⟩ = (#[.int .i64 p, .int .u64 sq, .int .u64 tg, .slice a al.length al.length, .int .u64 0, .slice none 0 0, .slice none 0 0, .bool false] : Array Value)[i]? := fun i => by simp [World.cell?, hm1]
  have m0 : W.cell? ⟨M, 0, none⟩ = some (.int .i64 p) := mc 0
  have m1 : W.cell? ⟨M, 1, none⟩ = some (.int .u64 sq) := mc 1
  have m2 : W.cell? ⟨M, 2, none⟩ = some (.int .u64 tg) := mc 2
  have m3 : W.cell? ⟨M, 3, none⟩ = some (.slice a al.length al.length) := mc 3
  have m5 : W.cell? ⟨M, 5, none⟩ = some (.slice none 0 0) := mc 5
  clear mc
  have hz0 : 0 < w.heap.size := by have := World.block_lt_of_cell? _ _ (hT 0 (by omega)); simpa using this
  have hcl : ∀ ty, (Builtin.clear_ #[50] ty #[.slice (some ⟨s.P, 0, none⟩) s.n s.cP]).run Ybaf.prog W = .ok (.tuple #[]) (W.setRow s.P (curP.toList.take 0 ++ (Builtin.zeroCells #[.int .u64 0] s.n).toList ++ curP.toList.drop (0 + s.n * 1)).toArray) :=
    fun ty => run_clear_row W 50 26 ty (.int .u64 0) Ybaf.underlying50 (fun w => by kernel_rfl) s.P 0 s.n s.cP curP 26 hgP (by simp [Value.cells]; omega) (by simp [Value.cells]; rfl)
  have hD2 : Dv base O N s w (W.setRow s.P (curP.toList.take 0 ++ (Builtin.zeroCells #[.int .u64 0] s.n).toList ++ curP.toList.drop (0 + s.n * 1)).toArray) l holding holders scr fifo barred M p sq tg (.slice a al.length al.length) := by
    have hd1 : Dv base O N s w W l holding holders scr fifo barred M p sq tg (.slice a al.length al.length) := ⟨hw1, hm1, hf1.wider (by simp) (by simp)⟩
    have hst := hw1.setP hS hgP (cs := (curP.toList.take 0 ++ (Builtin.zeroCells #[.int .u64 0] s.n).toList ++ curP.toList.drop (0 + s.n * 1)).toArray) (by
      simp only [List.size_toArray, List.length_append, List.length_take, List.length_drop, Array.length_toList, size_zeroCells]
      simp
      omega) (fun v hv => by
      simp only [List.mem_append] at hv
      rcases hv with (hv | hv) | hv
      · exact hUP v (List.mem_of_mem_take hv)
      · have := mem_zeroCells _ _ v hv
        simp at this
        subst this
        exact isU_int (by omega) (by omega)
      · exact hUP v (List.mem_of_mem_drop hv)) hsP
    exact hd1.step (S := [s.P]) hst.1 (hst.2.wider (by simp) (by simp)) (by simp) (by simp; exact hd1.apart.2.2.1)
  generalize (curP.toList.take 0 ++ (Builtin.zeroCells #[.int .u64 0] s.n).toList ++ curP.toList.drop (0 + s.n * 1)).toArray = cs at hcl hD2
  have hfE : Fr base [O, s.L, s.P] [70] w (W.setRow s.P cs) := hD2.fr
  generalize hW2 : W.setRow s.P cs = W2 at *
  have hd2 := hD2.apart
  obtain ⟨m0', m1', m2', m3', m5'⟩ := hD2.mc
  have hP2 := hD2.wk.P.cell p hp
  obtain ⟨⟨zp, qp, _⟩, fp⟩ := hP2
  have hst3 := hD2.wk.setPc hS p hsq.1 hsq.2
  have hD3 : Dv base O N s w (W2.setCell ⟨s.P, p, none⟩ (.int .u64 sq)) l holding holders scr fifo barred M p sq tg (.slice a al.length al.length) :=
    hD2.step (S := [s.P]) hst3.1 (hst3.2.wider (by simp) (by simp)) (by simp) (by simp; exact hd2.2.2.1)
  have HD3 : Hid (Dv base O N s w (W2.setCell ⟨s.P, p, none⟩ (.int .u64 sq)) l holding holders scr fifo barred M p sq tg (.slice a al.length al.length)) := hD3
  clear hD3 hst3 hD2 hfE hW2 hm1 hgP
  go_wp2
  go_loop [29] (fun i => i = .int .i64 0) (fun _ => 0)
  case atStart => rfl
  case round =>
    obtain rfl := hrel
    go_upto_region 10 with fail
    have hD3 := HD3.out
    generalize W2.setCell ⟨s.P, p, none⟩ (.int .u64 sq) = W3 at hD3 ⊢
    clear HD3
    have q4 : W3.cell? ⟨O, 4, none⟩ = some (.int .u64 l) := hD3.wk.ob.at 4
    have e4 := or_eq l p (by have := hw.hl; omega) (by omega)
    go_quiet (fail)
    have hD4 := hD3.step (S := []) (hD3.wk.drewN nq) ((Fr.refl _ _ _ _).drewN nq) (by simp) (by simp)
    generalize W3.drewN nq = W4 at hD4 ⊢
    have hor : orBit l p < 2 ^ s.n := or_lt _ _ _ hw.hl hp
    generalize orBit l p = x0 at hor ⊢
    have HS46 : Hid (∀ k, k ∈ [O, s.L, s.P] → ∃ (cur : Array Value) (t : TypeId) (fr : Nat × Nat), w.heap[k]? = some (.cells cur t fr) ∧ t ≠ 46) := by
      intro k hk
      obtain ⟨_, k1, _⟩ := hw.L
      obtain ⟨_, k2, _⟩ := hw.P
      simp at hk
      rcases hk with rfl | rfl | rfl
      · exact ⟨_, _, _, hw.ob, by simp⟩
      · exact ⟨_, _, _, k1, by simp⟩
      · exact ⟨_, _, _, k2, by simp⟩
    clear hD3 q4 e4 m0 m1 m2 m3 m5 m0' m1' m2' m3' m5' fp qp hcl q11
    obtain ⟨m0, m1, m2, m3, m5⟩ := hD4.mc
    generalize hml : al.length = ml at *
    have HML : Hid (al.length = ml) := hml
    clear hml
    go_wp2
    go_loopw [8, 55] (fun sv iv wr => ∃ x i : Nat, x < 2 ^ s.n ∧ i ≤ ml ∧ sv = .int .u64 x ∧ iv = .int .i64 i ∧ Dv base O N s w wr l holding holders scr fifo barred M p sq tg (.slice a ml ml)) (fun _ iv _ => ml - (intOf iv).toNat)
    case atStart => exact ⟨x0, 0, hor, Nat.zero_le _, rfl, rfl, hD4⟩
    case round =>
      obtain ⟨x, i, hx, hi, rfl, rfl, hd⟩ := hrel
      clear hor hD4 m0 m1 m2 m3 m5
      obtain ⟨m0, m1, m2, m3, m5⟩ := hd.mc
      have hEr : Ents wr (.slice a ml ml) al := hE.fr hd.fr (by simp) HS46.out
      by_cases hlt : i < ml
      · obtain ⟨b, off, sd, sqe, pde, rfl, hae, hsd64, hq0, hq1, hd0, hd1, c0, c1, c2⟩ := (HML.out ▸ hEr : Ents wr (.slice a al.length al.length) al).entry i (by rw [HML.out]; exact hlt)
        have hsdn : sd < s.n := by have := hsd (al[i]'(by rw [HML.out]; exact hlt)) (List.getElem_mem _); rw [hae] at this; exact this
        have e1 := or_eq x sd (by omega) (by omega)
        have hxn := or_lt _ _ _ hx hsdn
        go_wp2
        go_roundw
        case rel => exact ⟨orBit x sd, i + 1, hxn, by omega, rfl, by go_num, hd.step (S := []) (hd.wk.alloc _ _ fun e => by simp at e) ((Fr.refl _ _ _ _).alloc _) (by simp) (by simp)⟩
        case measure => simp [intOf]; omega
      · go_wp2
        go_loopw [8, 11] (fun sv cv wr => ∃ (x j l : Nat) (scr : Value) (al' : List (Nat × Int × Int)) (a' : Option Addr) (ml' : Nat), x < 2 ^ s.n ∧ j + (bitsOf x).length ≤ 8 ∧ sv = .int .u64 x ∧ cv = .slice a' ml' ml' ∧ ml' ≤ 1 ∧ Hid (al'.length = ml' ∧ Ents wr cv al') ∧ Dv base O (N + 2 * j) s w wr l holding holders scr fifo barred M p sq tg (.slice a ml ml)) (fun sv _ _ => (intOf sv).toNat)
        case atStart =>
          refine ⟨x, 0, l, scr, al, a, ml, hx, ?_, rfl, rfl, hal, ⟨HML.out, hEr⟩, hd⟩
          have := List.length_filter_le (x.testBit ·) (List.range 8)
          unfold bitsOf
          simpa using this
        case round =>
          clear hd m0 m1 m2 m3 m5 hx hEr
          obtain ⟨x, j, l, scr, al', a', ml', hx, hj, rfl, rfl, hml', HE, hd⟩ := hrel
          obtain ⟨m0, m1, m2, m3, m5⟩ := hd.mc
          by_cases hx0 : x = 0
          · subst hx0
            have hap := hd.apart
            have hDr : Drow wr s.D ds := hD.fr hd.fr (by simp; exact ⟨Ne.symm hS.OD, Ne.symm hS.LD, hS.DP⟩) (by simp)
            obtain ⟨⟨zk, qk, hzk0, hzk1⟩, fk⟩ := hd.wk.K.cell p hp
            have q5 : wr.cell? ⟨O, 5, none⟩ = some (.slice (some ⟨s.K, 0, none⟩) s.n s.cK) := hd.wk.ob.at 5
            go_wp2
            go_loop [193] (fun i => i = .int .i64 0) (fun _ => 0)
            case atStart => rfl
            case round =>
              obtain rfl := hrel
              go_upto_region 39 with fail
              go_region
              have hz01 : 0 ≤ (if zk < sq then sq else zk) ∧ (if zk < sq then sq else zk) < 18446744073709551616 := by
                split
                · exact hsq
                · exact ⟨hzk0, hzk1⟩
              have hsK := hd.wk.setKc hS p hz01.1 hz01.2
              have hwx := hsK.1.drew
              have hfx : Fr base [s.K] [] wr (wr.setCell ⟨s.K, p, none⟩ (.int .u64 (if zk < sq then sq else zk))).drew := hsK.2.drew
              have hmx := hfx.same hd.m (by simp; exact hap.2.2.2) (by simp)
              have hDx := hDr.fr hfx (by simp; exact Ne.symm hS.KD) (by simp)
              have hf0 := hd.fr
              clear hsK hz01
              generalize (wr.setCell ⟨s.K, p, none⟩ (.int .u64 (if zk < sq then sq else zk))).drew = X at hwx hfx hmx hDx ⊢
              have m1x : X.cell? ⟨M, 1, none⟩ = some (.int .u64 sq) := by simp [World.cell?, hmx, msgA]
              have q8 : X.cell? ⟨O, 8, none⟩ = some (.slice (some ⟨s.D, 0, none⟩) s.n s.cD) := hwx.ob.at 8
              obtain ⟨cD, fD⟩ := hDx.cell p (by omega)
              have hsD := hDx.set (base := base) p hsq.1 hsq.2 hS.bD
              have hN2 : N + 2 * j ≤ N + 16 := by omega
              have HP : Hid (DeliverPost base O N s holding holders fifo barred ds p sq w (.returned (.tuple #[])) ((X.setCell ⟨s.D, p, none⟩ (.int .u64 sq)).drew)) := by
                have hfD := hsD.2.2
                have hwD : Wk base O (N + 16) s (X.setCell ⟨s.D, p, none⟩ (.int .u64 sq)) l holding holders scr fifo barred := (hwx.mono hN2).fr hfD (hsD.2.1 hwx.ok) (by simp; exact hS.OD) (by simp; exact hS.LD) (by simp; exact hS.KD) (by simp; exact Ne.symm hS.DP) (by simp) (by simp) (by simp)
                refine ⟨rfl, ⟨l, scr, hwD.drew⟩, hsD.1.fr (Fr.refl base [] [] _).drew (by simp) (by simp), ?_⟩
                have t1 : Fr base [O, s.L, s.P, s.K, s.D] [70] w wr := hf0.wider (fun k hk => by simp at hk ⊢; omega) (by simp)
                have t2 : Fr base [O, s.L, s.P, s.K, s.D] [70] wr X := hfx.wider (by simp) (by simp)
                have t3 : Fr base [O, s.L, s.P, s.K, s.D] [70] X (X.setCell ⟨s.D, p, none⟩ (.int .u64 sq)) := hfD.wider (by simp) (by simp)
                exact (t1.trans (t2.trans t3)).drew
              clear hsD hDx hwx hfx hf0
              go_upto_region 40 with fail
              go_region
              go_wp2
              all_goals
                go_end0
                exact HP.out
          · have hxb : ((x : Int) != 0) = true := by simp; omega
            have hk := ctz_lt s.n x h8 hx hx0
            have hTr : Tab wr := hT.fr hd.fr h0 hz0
            go_wp2_with fail
            refine (tz_any x (by omega) hx0 wr hTr).mono ?_
            rintro e w1 ⟨rfl, e1⟩
            rw [e1]
            clear e1
            generalize hkk : Lib.ctz 64 x = k at hk ⊢
            have HK : Hid (Lib.ctz 64 x = k) := hkk
            clear hkk hTr
            go_upto_block 6 with fail
            go_cut [13] from 75 to 89 (fun iv wc => ∃ i : Nat, i ≤ ml' ∧ iv = .int .i64 i ∧ wc = wr)
            case first =>
              go_wp2
              go_loop [13] (fun iv => ∃ i : Nat, i ≤ ml' ∧ iv = .int .i64 i) (fun iv => ml' - (intOf iv).toNat)
              case atStart => exact ⟨0, Nat.zero_le _, rfl⟩
              case round =>
                obtain ⟨i, hi, rfl⟩ := hrel
                by_cases hlt : i < ml'
                · obtain ⟨b, off, sd, sqe, pde, rfl, _, hsd64, hq0, hq1, hd0, hd1, c0, c1, c2⟩ := (HE.out.1 ▸ HE.out.2 : Ents wr (.slice a' al'.length al'.length) al').entry i (by rw [HE.out.1]; exact hlt)
                  by_cases hke : sd = k
                  · subst hke
                    go_wp2
                    go_round
                    case rel => exact ⟨i + 1, by omega, by go_num⟩
                    case measure => simp [intOf]; omega
                  · have hkb : ((sd : Int) == (k : Int)) = false := beq_eq_false_iff_ne.2 (by omega)
                    go_wp2
                    go_meet
                    exact ⟨i, hi, rfl, rfl⟩
                · go_wp2
                  go_meet
                  exact ⟨i, hi, rfl, rfl⟩
            case rest =>
              obtain ⟨i, hi, rfl, rfl⟩ := hcut
              go_upto_region 23 with fail
              go_cut [14] from 90 to 92 (fun bv wd => wd = wc ∧ ∃ a2 c2, bv = .slice a2 i c2 ∧ Hid (∃ al2 : List (Nat × Int × Int), al2.length = i ∧ Ents wc bv al2))
              case first =>
                by_cases hz : ml' = 0
                · subst hz
                  obtain rfl : i = 0 := by omega
                  go_wp2
                  go_meet
                  exact ⟨rfl, _, _, rfl, [], rfl, Ents.nil _ _ _⟩
                · obtain ⟨b, off, _, _, _, rfl, _⟩ := (HE.out.1 ▸ HE.out.2 : Ents wc (.slice a' al'.length al'.length) al').entry 0 (by rw [HE.out.1]; omega)
                  have hii : (i : Int) ≤ (ml' : Int) := by omega
                  go_wp2
                  go_meet
                  exact ⟨rfl, _, _, rfl, al'.take i, by simp [HE.out.1]; omega, HE.out.2.pre HE.out.1 i hi⟩
              case rest =>
                obtain ⟨rfl, a2, c2, rfl, HE2⟩ := hcut
                go_upto_region 24 with fail
                go_cut [11] from 93 to 95 (fun cv wd => wd = wc ∧ ∃ a3 m3, cv = .slice a3 m3 m3 ∧ m3 ≤ 1 ∧ Hid (∃ al3 : List (Nat × Int × Int), al3.length = m3 ∧ Ents wc cv al3))
                case first =>
                  by_cases hz : i = ml'
                  · subst hz
                    go_wp2
                    go_meet
                    exact ⟨rfl, _, 0, rfl, by omega, [], rfl, Ents.nil _ _ _⟩
                  · obtain ⟨b, off, _, _, _, rfl, _⟩ := (HE.out.1 ▸ HE.out.2 : Ents wc (.slice a' al'.length al'.length) al').entry 0 (by rw [HE.out.1]; omega)
                    have hii : (i : Int) ≤ (ml' : Int) := by omega
                    have hne : ¬ ml' = i := by omega
                    go_wp2
                    go_meet
                    exact ⟨rfl, _, _, rfl, by omega, al'.drop i, by simp [HE.out.1], HE.out.2.post HE.out.1 i hi⟩
                case rest =>
                  obtain ⟨rfl, a3, m3, rfl, hm3, HE3⟩ := hcut
                  clear HE
                  have q3 : wc.cell? ⟨O, 3, none⟩ = some (.slice (some ⟨s.L, 0, none⟩) s.n s.cL) := hd.wk.ob.at 3
                  obtain ⟨⟨ve, qe, hse⟩, _⟩ := hd.wk.L.cell k hk
                  obtain ⟨ne, xe, _, hne, _, ae, ce, rfl⟩ := hse.owns hd.wk.ok
                  obtain ⟨⟨zp, qpk, hzp0, hzp1⟩, _⟩ := hd.wk.P.cell k hk
                  go_upto_region 26 with fail
                  go_cut [126] from 103 to 126 (fun bv wd => (∃ q, wd = wc.drewN q) ∧ ∃ bb, bv = .bool bb)
                  case first =>
                    by_cases hkp : k = p
                    · subst hkp
                      go_quiet (fail)
                      go_wp2
                      go_meet
                      exact ⟨⟨_, rfl⟩, _, rfl⟩
                    · have hkb : ((k : Int) == (p : Int)) = false := beq_eq_false_iff_ne.2 (by omega)
                      by_cases hi0 : 0 < i
                      · have hi1 : decide ((0 : Int) < (i : Int)) = true := by simp; omega
                        go_quiet (fail)
                        go_wp2
                        go_meet
                        exact ⟨⟨_, rfl⟩, _, rfl⟩
                      · obtain rfl : i = 0 := by omega
                        by_cases hne0 : 0 < ne
                        · have hi1 : decide ((0 : Int) < (ne : Int)) = true := by simp; omega
                          rcases id hse with h | ⟨b, n', c', cur, h1, _⟩
                          · simp at h; omega
                          simp only [Value.slice.injEq] at h1
                          obtain ⟨rfl, rfl, rfl⟩ := h1
                          obtain ⟨_, _, _, _, xz, yz, hx', _, _, _, _, _⟩ := hse.cells hd.wk.ok 0 hne0
                          simp only [Nat.zero_mul] at hx'
                          go_quiet (fail)
                          go_wp2
                          go_meet
                          exact ⟨⟨_, rfl⟩, _, rfl⟩
                        · obtain rfl : ne = 0 := by omega
                          go_quiet (fail)
                          go_wp2
                          go_meet
                          exact ⟨⟨_, rfl⟩, _, rfl⟩
                  case rest =>
                    obtain ⟨⟨q, hwq⟩, bb, rfl⟩ := hcut
                    have hd5 : Dv base O (N + 2 * j) s w wc l holding holders scr fifo barred M p sq tg (.slice a ml ml) := by rw [hwq]; exact hd.step (S := []) (hd.wk.drewN q) ((Fr.refl _ _ _ _).drewN q) (by simp) (by simp)
                    have HE4 : Hid (∃ al2 : List (Nat × Int × Int), al2.length = i ∧ Ents wc (.slice a2 i c2) al2) := by rw [hwq]; exact HE2
                    have HE5 : Hid (∃ al3 : List (Nat × Int × Int), al3.length = m3 ∧ Ents wc (.slice a3 m3 m3) al3) := by rw [hwq]; exact HE3
                    have hse5 : LogSl base (N + 2 * j) wc (.slice ae ne ce) := by rw [hwq]; exact hse
                    clear hd hwq HE2 HE3 hse q3 qe qpk m0 m1 m2 m5
                    obtain ⟨m0, m1, m2, _, _⟩ := hd5.mc
                    have hbr : base ≤ wc.heap.size := Nat.le_trans hS.bO (Nat.le_of_lt hd5.wk.ob.lt)
                    have hap := hd5.apart
                    have hj8 : j < 8 := by have := bits_cons x (by omega) hx0; rw [this] at hj; simp at hj; omega
                    have hxd := drop_lt x (by omega) hx0
                    have e18 := drop_eq x (by omega) hx0
                    have e19 : IntKind.u64.wrap ((x : Int) - 1) = (x : Int) - 1 := by rw [IntKind.wrap_u64]; omega
                    have HR : Hid (∀ (wz : World) (l' : Nat) (scr' : Value), Dv base O (N + 2 * (j + 1)) s w wz l' holding holders scr' fifo barred M p sq tg (.slice a ml ml) → (∃ al3 : List (Nat × Int × Int), al3.length = m3 ∧ Ents wz (.slice a3 m3 m3) al3) →
                        ∃ (x' j l : Nat) (scr : Value) (al' : List (Nat × Int × Int)) (a' : Option Addr) (ml' : Nat), x' < 2 ^ s.n ∧ j + (bitsOf x').length ≤ 8 ∧ Value.int .u64 (dropLow x : Nat) = .int .u64 x' ∧ Value.slice a3 m3 m3 = .slice a' ml' ml' ∧ ml' ≤ 1 ∧ Hid (al'.length = ml' ∧ Ents wz (.slice a3 m3 m3) al') ∧ Dv base O (N + 2 * j) s w wz l holding holders scr fifo barred M p sq tg (.slice a ml ml)) := by
                      rintro wz l' scr' hz ⟨al3, e1, e2⟩
                      refine ⟨dropLow x, j + 1, l', scr', al3, a3, m3, by omega, ?_, rfl, rfl, hm3, ⟨e1, e2⟩, hz⟩
                      have := bits_cons x (by omega) hx0
                      rw [this] at hj
                      simp at hj
                      omega
                    cases bb
                    · have HD : Hid (Dv base O (N + 2 * (j + 1)) s w wc l holding holders scr fifo barred M p sq tg (.slice a ml ml)) := hd5.step (S := []) (hd5.wk.mono (by omega)) (Fr.refl _ _ _ _) (by simp) (by simp)
                      go_wp2
                      go_roundw
                      case rel => exact HR.out wc l scr HD.out HE5.out
                      case measure => simp [intOf]; omega
                    · have q5 : wc.cell? ⟨O, 5, none⟩ = some (.slice (some ⟨s.K, 0, none⟩) s.n s.cK) := hd5.wk.ob.at 5
                      obtain ⟨⟨zk, qk, hzk0, hzk1⟩, _⟩ := hd5.wk.K.cell k hk
                      obtain ⟨⟨zp, qpk, hzp0, hzp1⟩, _⟩ := hd5.wk.P.cell k hk
                      obtain ⟨al2, hal2, hents2⟩ := HE4.out
                      go_upto_if 133 with fail
                      go_cut [16] from 134 to 136 (fun zv wd => wd = wc ∧ ∃ z : Int, zv = .int .u64 z)
                      case first =>
                        by_cases hkp : k = p
                        · subst hkp
                          go_wp2
                          go_meet
                          exact ⟨rfl, _, rfl⟩
                        · have hkb : ((k : Int) == (p : Int)) = false := beq_eq_false_iff_ne.2 (by omega)
                          go_wp2
                          go_meet
                          exact ⟨rfl, _, rfl⟩
                      case rest =>
                        obtain ⟨rfl, z16, rfl⟩ := hcut
                        go_upto_region 30 with fail
                        go_cut [15] from 137 to 150 (fun ev wd => ∃ scr', LogSl base (N + 2 * j + al2.length) wd ev ∧ LogSl base 0 wd scr' ∧ Ob wd O s l holding holders scr' fifo barred ∧ LogOK base wd ∧ Fr base [O] [70] wc wd)
                        case first =>
                          go_region_with (go_at_call 26; go_must (refine (merge_any base O (N + 2 * j) s l holding holders scr fifo barred _ _ al2 tg _ _ _ ?_ hS.bO ?_ ?_ ?_ ?_ (by omega) (by omega) ?_).mono ?_); go_must (exact hd5.wk.ob); go_must (exact hse5); go_must (exact hd5.wk.scr); go_must (exact hd5.wk.ok); go_must (exact hents2); go_must (exact hbr); rintro e w6 ⟨es', scr', rfl, k1, k2, k3, k4, k5⟩)
                          all_goals
                            have k6 : Fr base [O] [70] wc w6 := Fr.trans (by repeat (first | exact Fr.refl _ _ _ _ | apply Fr.drewN | apply Fr.drew)) k5
                            go_wp2
                            go_meet
                            first | exact ⟨scr', k1, k2, k3, k4, k6⟩ | exact ⟨scr', k1, k2, k3.same rfl, k4.same rfl, k6.drew⟩
                        case rest =>
                          obtain ⟨scr', k1, k2, k3, k4, k5⟩ := hcut
                          have wk6 : Wk base O (N + 2 * j + 1) s wc l holding holders scr' fifo barred := ⟨k3, hd5.wk.hl, k2.mono (by omega), k4, (hd5.wk.L.mono (by omega)).fr k5 (by simp; exact Ne.symm hS.OL) (by simp), hd5.wk.K.fr k5 (by simp; exact Ne.symm hS.OK) (by simp), hd5.wk.P.fr k5 (by simp; exact Ne.symm hS.OP) (by simp)⟩
                          have hd6 := hd5.step (S := [O]) wk6 k5 (by simp) (by simp; exact hap.1)
                          have HE6 : Hid (∃ al3 : List (Nat × Int × Int), al3.length = m3 ∧ Ents wc (.slice a3 m3 m3) al3) := by
                            obtain ⟨al3, e1, e2⟩ := HE5.out
                            exact ⟨al3, e1, e2.fr k5 (by simp) fun kk hkk => by simp at hkk; subst hkk; exact ⟨_, _, _, hd5.wk.ob, by simp⟩⟩
                          have k7 : LogSl base (N + 2 * j + 1) wc u15 := k1.mono (by omega)
                          clear k1 k2 k3 k4 k5 wk6 hd5 HE4 HE5 hse5 hents2 m0 m1 m2 q5 qk qpk
                          obtain ⟨m0, m1, m2, _, _⟩ := hd6.mc
                          have q5 : wc.cell? ⟨O, 5, none⟩ = some (.slice (some ⟨s.K, 0, none⟩) s.n s.cK) := hd6.wk.ob.at 5
                          obtain ⟨⟨zk, qk, hzk0, hzk1⟩, _⟩ := hd6.wk.K.cell p hp
                          go_upto_region 31 with fail
                          go_cut [165] from 151 to 165 (fun bv wd => (∃ q, wd = wc.drewN q) ∧ ∃ bb, bv = .bool bb)
                          case first =>
                            by_cases hkp : k = p
                            · subst hkp
                              go_quiet (fail)
                              go_wp2
                              go_meet
                              exact ⟨⟨_, rfl⟩, _, rfl⟩
                            · have hkb : ((k : Int) == (p : Int)) = false := beq_eq_false_iff_ne.2 (by omega)
                              go_quiet (fail)
                              go_wp2
                              go_meet
                              exact ⟨⟨_, rfl⟩, _, rfl⟩
                          case rest =>
                            obtain ⟨⟨q, hwq⟩, bb, rfl⟩ := hcut
                            have hd7 : Dv base O (N + 2 * j + 1) s w wc l holding holders scr' fifo barred M p sq tg (.slice a ml ml) := by rw [hwq]; exact hd6.step (S := []) (hd6.wk.drewN q) ((Fr.refl _ _ _ _).drewN q) (by simp) (by simp)
                            have HE7 : Hid (∃ al3 : List (Nat × Int × Int), al3.length = m3 ∧ Ents wc (.slice a3 m3 m3) al3) := by rw [hwq]; exact HE6
                            have k8 : LogSl base (N + 2 * j + 1) wc u15 := by rw [hwq]; exact k7
                            clear hd6 HE6 k7 hwq m0 m1 m2 q5 qk
                            obtain ⟨m0, m1, m2, _, _⟩ := hd7.mc
                            have q0 : wc.cell? ⟨O, 0, none⟩ = some (.int .i64 s.self) := hd7.wk.ob.at 0
                            have q24 : wc.cell? ⟨O, 24, none⟩ = some (.int .u64 0) := hd7.wk.ob.at 24
                            have hbr : base ≤ wc.heap.size := Nat.le_trans hS.bO (Nat.le_of_lt hd7.wk.ob.lt)
                            have hap := hd7.apart
                            have hself := hS.self
                            go_upto_if 165 with fail
                            go_cut [15] from 166 to 180 (fun ev wd => LogSl base (N + 2 * j + 2) wd ev ∧ LogOK base wd ∧ Fr base [] [70] wc wd)
                            case first =>
                              cases bb
                              · go_wp2
                                go_meet
                                exact ⟨k8.mono (by omega), hd7.wk.ok, Fr.refl _ _ _ _⟩
                              · go_wp2
                                have HC : Hid (∀ w7, Fr base [] [70] wc w7 → w7.cell? ⟨M, 1, none⟩ = some (.int .u64 sq) ∧ w7.cell? ⟨M, 2, none⟩ = some (.int .u64 tg) ∧ w7.cell? ⟨O, 0, none⟩ = some (.int .i64 s.self)) := by
                                  intro w7 g4
                                  have e1 := g4.same hd7.m (by simp) (by simp)
                                  have e2 := hd7.wk.ob.fr g4 (by simp) (by simp)
                                  exact ⟨(World.cell?_of_block (a := ⟨M, 1, none⟩) (e1.trans hd7.m.symm)).trans m1, (World.cell?_of_block (a := ⟨M, 2, none⟩) (e1.trans hd7.m.symm)).trans m2, e2.at 0⟩
                                go_region_held3 (fun w' => w'.cell? ⟨M, 1, none⟩ = some (.int .u64 sq) ∧ w'.cell? ⟨M, 2, none⟩ = some (.int .u64 tg) ∧ w'.cell? ⟨O, 0, none⟩ = some (.int .i64 s.self)) (go_keep)
                                  (first | (go_at_call 27; refine (without_any _ _ _ ?_).mono ?_; omega; rintro e w8 ⟨rfl, rfl⟩) | (refine step_append_log rfl (.tmp 166) (.tmp 179) rfl base (N + 2 * j + 1) _ u15 _ sq (bits .andNot .u64 (bits .andNot .u64 tg (IntKind.u64.wrap (2 ^ p))) (IntKind.u64.wrap (2 ^ s.self))) rfl rfl ?_ ?_ ?_ ?_ ?_ (by omega) ?_ ?_; go_must (exact heap_alloc_new _ _); go_must (exact k8.fr (base := base) (S := []) (T := []) (by repeat (first | exact Fr.refl _ _ _ _ | apply Fr.drewN | apply Fr.drew | apply Fr.alloc))); go_must (exact (hd7.wk.ok.box hsq (bits_range _ _ _)).same rfl); exact hsq; exact bits_range _ _ _; go_must (exact Nat.le_trans hbr (Fr.size (base := base) (S := []) (T := []) (by repeat (first | exact Fr.refl _ _ _ _ | apply Fr.drewN | apply Fr.drew | apply Fr.alloc)))); intro v' w7 g1 g2 g3; have g4 : Fr base [] [70] wc w7 := g3 [] wc (by repeat (first | exact Fr.refl _ _ _ _ | apply Fr.drewN | apply Fr.drew | apply Fr.alloc)); obtain ⟨c1, c2, c3⟩ := HC.out w7 g4))
                                all_goals
                                  go_wp2
                                  go_meet
                                  exact ⟨g1, g2, g4⟩
                            case rest =>
                              obtain ⟨k9, k10, k11⟩ := hcut
                              have hd8 := (hd7.step (S := []) (hd7.wk.fr k11 k10 (by simp) (by simp) (by simp) (by simp) (by simp) (by simp) (by simp)) k11 (by simp) (by simp))
                              have HE8 : Hid (∃ al3 : List (Nat × Int × Int), al3.length = m3 ∧ Ents wc (.slice a3 m3 m3) al3) := by
                                obtain ⟨al3, e1, e2⟩ := HE7.out
                                exact ⟨al3, e1, e2.fr k11 (by simp) (by simp)⟩
                              have q24 : wc.cell? ⟨O, 24, none⟩ = some (.int .u64 0) := hd8.wk.ob.at 24
                              clear hd7 HE7 k8 k11
                              go_wp2_with fail
                              refine (compact_any base (N + 2 * j + 2) u15 0 wc k9 k10 (by omega)).mono ?_
                              rintro e w9 ⟨⟨v9, rfl, g1⟩, g2, g3⟩
                              have hd9 := hd8.step (S := []) ((hd8.wk.mono (N' := N + 2 * j + 2) (by omega)).fr g2 g3 (by simp) (by simp) (by simp) (by simp) (by simp) (by simp) (by simp)) g2 (by simp) (by simp)
                              go_wp2_with fail
                              refine (setLog_any base O (N + 2 * j + 2) s l holding holders scr' fifo barred k v9 w9 hS hd9.wk hk g1).mono ?_
                              rintro e w10 ⟨rfl, ⟨l', hw10⟩, g4⟩
                              have HD : Hid (Dv base O (N + 2 * (j + 1)) s w w10 l' holding holders scr' fifo barred M p sq tg (.slice a ml ml)) := hd9.step (S := [O, s.L]) hw10 (g4.wider (by simp) (by simp)) (by simp) (by simp; exact ⟨hap.1, hap.2.1⟩)
                              have HE10 : Hid (∃ al3 : List (Nat × Int × Int), al3.length = m3 ∧ Ents w10 (.slice a3 m3 m3) al3) := by
                                obtain ⟨al3, e1, e2⟩ := HE8.out
                                refine ⟨al3, e1, (e2.fr g2 (by simp) (by simp)).fr g4 (by simp) fun kk hkk => ?_⟩
                                simp at hkk
                                rcases hkk with rfl | rfl
                                · exact ⟨_, _, _, hd9.wk.ob, by simp⟩
                                · obtain ⟨_, k1, _⟩ := hd9.wk.L
                                  exact ⟨_, _, _, k1, by simp⟩
                              clear hd9 hd8 HE8 hw10 g4 g2 g3 g1 k9 k10
                              go_wp2
                              go_roundw
                              case rel => exact HR.out w10 l' scr' HD.out HE10.out
                              case measure => simp [intOf]; omega

end Go.Proofs.YbulkbobqFmt
