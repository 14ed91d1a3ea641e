/- The contract of prune. -/
import Derived.Test.YbulkbofkDrop
import Derived.Test.YbulkbofkNs
import Derived.Test.YbulkbofkLocks
import Derived.Conc.MuLone
namespace Go.Proofs.Ybulkbofk
open Go.RowKit Go.MuLone

/-- What came in: which viewers there are, their hosts, the slices that hold these, when they lapse. -/
structure Inp where
  has : Nat → Bool
  Hs : Nat → List Nat
  sl : Nat → Value
  lp : Nat → Int

def Inp.ok (I : Inp) (w : World) (B : Nat) : Prop := ∀ v, v < 4 → SlS w B (I.sl v) (I.Hs v) ∧ (∀ h ∈ I.Hs v, h < 3) ∧ (I.Hs v).length ≤ 256 ∧ -9223372036854775808 ≤ I.lp v ∧ I.lp v ≤ 9223372036854775807
theorem Inp.ok.below {I : Inp} {w w' : World} {B : Nat} (h : I.ok w B) (hb : Below B w w') : I.ok w' B := fun v hv => ⟨(h v hv).1.below hb, (h v hv).2⟩

def vw (u : Value) (D : Int) : Value := .agg #[u, .int .u64 (tnN D), .int .i64 (tnS D), .pointer none]
def Vof (I : Inp) (k : Nat → Bool) : Nat → Option Value := fun v => if k v then some (vw (I.sl v) (I.lp v)) else none
def Oof (I : Inp) (k : Nat → Bool) : Nat → Nat → Bool := fun h v => k v && (I.Hs v).contains h
/-- Those that are still to come, and those that stay. -/
def hasL (I : Inp) (now : Int) (left : Nat → Bool) : Nat → Bool := fun v => I.has v && (left v || decide (now < I.lp v))
def keepOf (I : Inp) (now : Int) : Nat → Bool := fun v => I.has v && decide (now < I.lp v)

theorem St.below {w w' : World} {B bs bv bo bw : Nat} {st : Int} {O : Nat → Nat → Bool} (h : St w B bs bv bo bw st O) {C : Nat} (hC : w.heap.size ≤ C) (hb : Below C w w') : St w' B bs bv bo bw st O := by
  obtain ⟨ob, ho⟩ := h.os
  have e : ∀ i, i < w.heap.size → w'.heap[i]? = w.heap[i]? := fun i hi => hb.block i (by omega)
  have l1 : bs < w.heap.size := (Array.getElem?_eq_some_iff.1 h.c).1
  have l2 : bw < w.heap.size := (Array.getElem?_eq_some_iff.1 h.wt).1
  exact ⟨(e _ l1).trans h.c, (e _ l2).trans h.wt, h.k, ob, ho.kept (e _ ho.map.lt) (fun k b hk hbb => e _ (ho.inn k b hk hbb).1.lt)⟩

theorem RngT.below {w w' : World} {b r N cnt : Nat} {nm : Nat → Value} {f : Nat → Option Value} {left : Nat → Bool} (h : RngT w b r N nm f left cnt) {C : Nat} (hC : w.heap.size ≤ C) (hb : Below C w w') : RngT w' b r N nm f left cnt :=
  h.kept (hb.block _ (Nat.lt_of_lt_of_le h.map.lt hC)) (hb.block _ (Nat.lt_of_lt_of_le h.lt hC))

theorem St.setSt {w : World} {B bs bv bo bw : Nat} {st : Int} {O : Nat → Nat → Bool} (h : St w B bs bv bo bw st O) (st' : Int) : St (w.setCell ⟨bs, 0, none⟩ (.int .i32 st')) B bs bv bo bw st' O := by
  obtain ⟨ob, ho⟩ := h.os
  have e : ∀ i, i ≠ bs → (w.setCell ⟨bs, 0, none⟩ (.int .i32 st')).heap[i]? = w.heap[i]? := fun i hi => Below.heap_setCell _ _ _ _ hi
  have n1 : ∀ b, (∃ es c, w.heap[b]? = some (.map es c)) → b ≠ bs := fun b ⟨es, c, hm⟩ e => by
    rw [e, h.c] at hm
    cases hm
  refine ⟨?_, (e _ (n1 _ ⟨_, _, h.wt⟩)).trans h.wt, h.k, ob, ho.kept (e _ (n1 _ ?_)) (fun k b hk hbb => e _ (n1 _ ?_))⟩
  · have hc := h.c
    rw [setCell_eq_setRow w bs 0 _ 82 (0, 0) _ hc, setRow_heap w bs _ _ _ _ hc]
    rfl
  · obtain ⟨es, c, hm, _⟩ := ho.map
    exact ⟨es, c, hm⟩
  · obtain ⟨es, c, hm, _⟩ := (ho.inn k b hk hbb).1
    exact ⟨es, c, hm⟩

theorem RngT.congr {w : World} {b r N cnt : Nat} {nm : Nat → Value} {f g : Nat → Option Value} {left l2 : Nat → Bool} (h : RngT w b r N nm f left cnt) (hf : ∀ i, i < N → f i = g i) (hl : ∀ i, i < N → left i = l2 i) : RngT w b r N nm g l2 cnt := by
  obtain ⟨es, clock, since, seen, c0, hb, E, hr, h1, h2, h3, h4, h5⟩ := h
  refine ⟨es, clock, since, seen, c0, hb, ⟨E.st, fun e he => ?_, fun i v hi hv => E.from' i v hi ((hf i hi).trans hv)⟩, hr, h1, h2, fun x hx i hi hk => by rw [← hl i hi]; exact h3 x hx i hi hk, fun i hi hn => by rw [← hl i hi]; exact h4 i hi ((hf i hi).trans hn), h5⟩
  obtain ⟨i, hi, g1, g2⟩ := E.to e he
  exact ⟨i, hi, g1, (hf i hi) ▸ g2⟩

theorem below_le {w w' : World} {B C : Nat} (h : Below C w w') (hBC : B ≤ C) : Below B w w' := ⟨h.os, h.tape, h.output, h.size, fun k hk => h.block k (by omega)⟩
theorem grown_below {w w' : World} {B : Nat} {row : Option Nat} (h : w.grownBy w' row) (hB : B ≤ w.heap.size) (hr : ∀ j, row = some j → B ≤ j) : Below B w w' := ⟨h.os, h.tape, h.output, h.size, fun k hk => h.block k (by omega) (fun e => by have := hr k e.symm; omega)⟩

theorem Vof_start (I : Inp) (now : Int) (i : Nat) : Vof I I.has i = Vof I (hasL I now (fun i => (Vof I I.has i).isSome)) i := by
  unfold Vof hasL
  cases h : I.has i <;> simp [h]
theorem Oof_start (I : Inp) (now : Int) (h v : Nat) : Oof I I.has h v = Oof I (hasL I now (fun i => (Vof I I.has i).isSome)) h v := by
  unfold Oof hasL Vof
  cases h : I.has v <;> simp [h]

theorem strike_twice (left : Nat → Bool) (i : Nat) : strike (strike left i) i = strike left i := by
  funext j
  unfold strike
  by_cases h : j = i <;> simp [h]
/-- A viewer that stays is met. -/
theorem hasL_stay (I : Inp) (now : Int) (left : Nat → Bool) (i : Nat) (hl : left i = true) (hn : now < I.lp i) (v : Nat) : hasL I now left v = hasL I now (strike left i) v := by
  unfold hasL strike
  by_cases h : v = i
  · subst h; simp [hl, hn]
  · simp [h]
/-- One that goes is met. -/
theorem hasL_go (I : Inp) (now : Int) (left : Nat → Bool) (i : Nat) (hn : ¬ now < I.lp i) (v : Nat) : hasL I now (strike left i) v = (hasL I now left v && !(v == i)) := by
  unfold hasL strike
  by_cases h : v = i
  · subst h; simp [hn]
  · have h' : (v == i) = false := by simpa using h
    simp [h, h']
theorem hasL_end (I : Inp) (now : Int) (left : Nat → Bool) (v : Nat) (h : left v = false) : hasL I now left v = keepOf I now v := by
  unfold hasL keepOf
  simp [h]
theorem Vof_congr {I : Inp} {k k' : Nat → Bool} {v : Nat} (h : k v = k' v) : Vof I k v = Vof I k' v := by unfold Vof; rw [h]
theorem Oof_congr {I : Inp} {k k' : Nat → Bool} {h v : Nat} (e : k v = k' v) : Oof I k h v = Oof I k' h v := by unfold Oof; rw [e]

theorem St.congr {w : World} {B bs bv bo bw : Nat} {st : Int} {O O' : Nat → Nat → Bool} (h : St w B bs bv bo bw st O) (e : ∀ k v, k < 3 → v < 4 → O k v = O' k v) : St w B bs bv bo bw st O' := by
  obtain ⟨ob, ho⟩ := h.os
  exact ⟨h.c, h.wt, h.k, ob, ho.congr e⟩

theorem NM.ofBelow {w w' : World} {C : Nat} (h : Below C w w') (hC : w.heap.size ≤ C) : NM w w' := fun j o hj _ => by
  have := (Array.getElem?_eq_some_iff.1 hj).1
  exact (h.block j (by omega)).trans hj
theorem NM.trans {a b c : World} (h : NM a b) (k : NM b c) : NM a c := fun j o hj ho => k j o (h j o hj ho) ho

/-- But for block bs, what is no map is as it was. -/
def KX (bs : Nat) (w w' : World) : Prop := ∀ (j : Nat) (o : Obj), j ≠ bs → w.heap[j]? = some o → (∀ es c, o ≠ Obj.map es c) → w'.heap[j]? = some o
theorem KX.step {bs : Nat} {w a b : World} (h : KX bs w a) (k : NM a b) : KX bs w b := fun j o hj ho hm => k j o (h j o hj ho hm) hm
theorem KX.grown {bs : Nat} {w a b : World} {row : Option Nat} (h : KX bs w a) (hg : a.grownBy b row) (hr : ∀ r, row = some r → w.heap.size ≤ r) : KX bs w b := fun j o hj ho hm => by
  have h1 := h j o hj ho hm
  have l1 := (Array.getElem?_eq_some_iff.1 h1).1
  have l2 := (Array.getElem?_eq_some_iff.1 ho).1
  exact (hg.block j l1 (fun e => by have := hr j e.symm; omega)).trans h1
theorem KX.setCell {bs : Nat} {w a : World} (h : KX bs w a) (i : Nat) (x : Value) : KX bs w (a.setCell ⟨bs, i, none⟩ x) := fun j o hj ho hm => (Below.heap_setCell _ _ _ _ hj).trans (h j o hj ho hm)

set_option maxRecDepth 100000 in
set_option maxHeartbeats 2000000 in
theorem prune_any (B bs bv bo bw : Nat) (I : Inp) (now : Int) (w : World) (hst : St w B bs bv bo bw 0 (Oof I I.has)) (hV : MapT w bv 4 vv (Vof I I.has)) (hI : I.ok w B) :
    Calls Yba.prog 14 #[.pointer (some ⟨bs, 0, none⟩), tD now] w fun e w' => e = .returned (.tuple #[]) ∧ St w' B bs bv bo bw 0 (Oof I (keepOf I now)) ∧ MapT w' bv 4 vv (Vof I (keepOf I now)) ∧ Below B w w' ∧ KX bs w w' := by
  have HN : Hid (tnN now < 1000000000) := tnN_lt now
  have HB : Hid (B ≤ w.heap.size) := by
    have := hst.k
    have h2 := hV.lt
    show B ≤ w.heap.size
    omega
  have HST : Hid (St w B bs bv bo bw 0 (Oof I I.has)) := hst
  have HV : Hid (MapT w bv 4 vv (Vof I I.has)) := hV
  have HI : Hid (I.ok w B) := hI
  clear hst hV hI
  unfold tD tn
  go_enter_defers Yba.func14, Yba.ntmps14
  go_upto_region 1 with fail
  obtain ⟨W, hW⟩ : ∃ W, W = w.alloc (.cells #[.int .u64 (tnN now), .int .i64 (tnS now), .pointer none] 28) := ⟨_, rfl⟩
  have HW : Hid (Below w.heap.size w W ∧ Tc W w.heap.size (tnN now) (tnS now) ∧ W.heap.size = w.heap.size + 1) := by
    rw [hW]
    exact ⟨(Below.refl _ _).alloc (Nat.le_refl _) _, heap_alloc_new w _, by simp⟩
  rw [← hW]
  clear hW
  generalize hX : w.heap.size = X at *
  have hst1 : St W B bs bv bo bw 0 (Oof I I.has) := HST.out.below (Nat.le_of_eq hX) HW.out.1
  obtain ⟨c0, c2, c3, c4, f0⟩ := hst1.cells
  have HST1 : Hid (St (W.setCell ⟨bs, 0, none⟩ (.int .i32 1)) B bs bv bo bw 1 (Oof I I.has)) := hst1.setSt 1
  clear hst1
  go_wp2_with fail
  refine (lock_free Yba.muLib ⟨bs, 0, none⟩ _ c0 f0).mono ?_
  rintro e w1 ⟨rfl, rfl⟩
  have hbsX : bs < X := by
    have := HST.out.c
    have := (Array.getElem?_eq_some_iff.1 this).1
    omega
  have HW1 : Hid (Below B w (W.setCell ⟨bs, 0, none⟩ (.int .i32 1)) ∧ Tc (W.setCell ⟨bs, 0, none⟩ (.int .i32 1)) X (tnN now) (tnS now) ∧ (W.setCell ⟨bs, 0, none⟩ (.int .i32 1)).heap.size = X + 1 ∧ MapT (W.setCell ⟨bs, 0, none⟩ (.int .i32 1)) bv 4 vv (Vof I I.has) ∧ KX bs w (W.setCell ⟨bs, 0, none⟩ (.int .i32 1))) := by
    refine ⟨(below_le HW.out.1 HB.out).setCell HST.out.k.1 _, HW.out.2.1.other (Below.heap_setCell _ _ _ _ (by show X ≠ bs; omega)), by simp [HW.out.2.2], HV.out.kept ?_, KX.setCell (fun j o _ ho hm => NM.ofBelow HW.out.1 (Nat.le_of_eq hX) j o ho hm) 0 _⟩
    have hlt := HV.out.lt
    rw [Below.heap_setCell _ _ _ _ ?_]
    · exact HW.out.1.block _ (by omega)
    · show bv ≠ bs
      intro e
      obtain ⟨es, c, hm, _⟩ := HV.out
      rw [e, HST.out.c] at hm
      cases hm
  clear c0 c2 c3 c4 f0 HW
  generalize W.setCell ⟨bs, 0, none⟩ (.int .i32 1) = W1 at HST1 HW1 ⊢
  obtain ⟨c0, c2, c3, c4, f0⟩ := HST1.out.cells
  have hV1 := HW1.out.2.2.2.1
  go_wp2_with (at_range; refine wpList_rangeT _ rfl _ 78 rfl 70 tabV Yba.underlying78 bv hV1 rfl ?_; intro w2 cnt hr2 hg2 hsz2)
  go_frame
  have HR2 : Hid (RngT w2 bv W1.heap.size 4 vv (Vof I (hasL I now (fun i => (Vof I I.has i).isSome))) (fun i => (Vof I I.has i).isSome) cnt) := hr2.congr (fun i _ => Vof_start I now i) (fun _ _ => rfl)
  have HS2 : Hid (St w2 B bs bv bo bw 1 (Oof I (hasL I now (fun i => (Vof I I.has i).isSome)))) := (HST1.out.below (C := W1.heap.size) (Nat.le_refl _) ⟨hg2.os, hg2.tape, hg2.output, hg2.size, fun k hk => hg2.block k hk (by simp)⟩).congr (fun h v _ _ => Oof_start I now h v)
  have HB2 : Hid (Below B w w2 ∧ Tc w2 X (tnN now) (tnS now) ∧ KX bs w w2) := ⟨HW1.out.1.trans (grown_below hg2 (by have := HW1.out.2.2.1; have := HB.out; omega) (by simp)), HW1.out.2.1.other (hg2.block X (by have := HW1.out.2.2.1; omega) (by simp)), HW1.out.2.2.2.2.grown hg2 (by simp)⟩
  have HXr : Hid (X < W1.heap.size) := by
    have := HW1.out.2.2.1
    show X < W1.heap.size
    omega
  clear c0 c2 c3 c4 f0 hV1 hr2 hg2 HW1 HST1 hsz2
  generalize W1.heap.size = r at HR2 HXr ⊢
  go_loopw [4] (fun _ wr => ∃ left cnt, RngT wr bv r 4 vv (Vof I (hasL I now left)) left cnt ∧ St wr B bs bv bo bw 1 (Oof I (hasL I now left)) ∧ Below B w wr ∧ Tc wr X (tnN now) (tnS now) ∧ KX bs w wr) (fun _ wr => wr.rangeLeft bv r)
  case atStart => exact ⟨_, _, HR2.out, HS2.out, HB2.out⟩
  case round =>
    obtain ⟨left, cnt, hr, hst, hb, ht, hkx⟩ := hrel
    have HKX : Hid (KX bs w wr) := hkx
    clear hkx
    have HM : Hid (wr.rangeLeft bv r = cnt) := hr.left_eq
    clear HR2 HS2 HB2
    have HST2 : Hid (St wr B bs bv bo bw 1 (Oof I (hasL I now left)) ∧ Below B w wr ∧ Tc wr X (tnN now) (tnS now) ∧ RngT wr bv r 4 vv (Vof I (hasL I now left)) left cnt) := ⟨hst, hb, ht, hr⟩
    clear hst hb ht
    go_upto_region 5 with (at_next; refine wpList_nextT _ rfl _ rfl tabV bv r hr rfl ?_ ?_)
    · intro hc0 hl0
      clear hr
      go_wp2_with fail
      obtain ⟨g1, g2, g3, g4⟩ := HST2.out
      have g5 := g1.congr (O' := Oof I (keepOf I now)) (fun h v _ hv => Oof_congr (hasL_end I now left v (hl0 v hv)))
      have g6 := g4.map.congr (g := Vof I (keepOf I now)) (fun v hv => Vof_congr (hasL_end I now left v (hl0 v hv)))
      obtain ⟨c0, c2, c3, c4, f0⟩ := g5.cells
      clear HST2 g1 g4 HM
      refine leaves_cons (f := 28) (args := #[.pointer (some ⟨bs, 0, none⟩)]) (by simp) (by simp [go_sem]) ?_
      refine (unlock_deferred Yba.muLib ⟨bs, 0, none⟩ .returning _ c0 f0).mono ?_
      rintro e u' w'' ⟨rfl, rfl, rfl⟩
      refine ⟨_, results_none rfl _ _ _, rfl, g5.setSt 0, g6.kept (Below.heap_setCell _ _ _ _ ?_), g2.setCell g5.k.1 _, HKX.out.setCell 0 _⟩
      show bv ≠ bs
      intro e
      obtain ⟨es, c, hm, _⟩ := g6
      rw [e, g5.c] at hm
      cases hm
    · intro i v w3 cnt3 hi hli hv hr3 hlt hg hsz hen
      obtain ⟨hk1, rfl⟩ : hasL I now left i = true ∧ v = vw (I.sl i) (I.lp i) := by
        unfold Vof at hv
        split at hv
        · rename_i hk
          exact ⟨hk, (Option.some.inj hv).symm⟩
        · cases hv
      clear hv hr
      obtain ⟨a, c, hsl⟩ : ∃ a c, I.sl i = .slice a (I.Hs i).length c := by
        obtain ⟨a, c, e, _⟩ := (HI.out i hi).1
        exact ⟨a, c, e⟩
      have HEN : Hid ((Instr.entry (.pointer (some ⟨r, 0, none⟩))).run Yba.prog w3 = .ok (.tuple #[vv i, vw (I.sl i) (I.lp i)]) w3) := hen
      unfold vw at hen
      rw [hsl] at hen
      go_upto_region 6 with fail
      obtain ⟨g1, g2, g3, g4⟩ := HST2.out
      obtain ⟨W4, hW4⟩ : ∃ W4, W4 = w3.alloc (.cells #[.slice a (I.Hs i).length c, .int .u64 (tnN (I.lp i)), .int .i64 (tnS (I.lp i)), .pointer none] 70) := ⟨_, rfl⟩
      have b3 : ∀ j, j < w3.heap.size → W4.heap[j]? = w3.heap[j]? := fun j hj => by rw [hW4]; exact Below.heap_alloc _ _ _ hj
      have b34 : Below w3.heap.size w3 W4 := by rw [hW4]; exact (Below.refl _ _).alloc (Nat.le_refl _) _
      have hrr : r < wr.heap.size := g4.lt
      have hXr := HXr.out
      have hX3 : Tc w3 X (tnN now) (tnS now) := g3.other (hg.block X (by omega) (by simp; omega))
      have hX4 : Tc W4 X (tnN now) (tnS now) := hX3.other (b3 X (by omega))
      have y1 : W4.heap[wr.heap.size]? = some (.cells #[.slice a (I.Hs i).length c, .int .u64 (tnN (I.lp i)), .int .i64 (tnS (I.lp i)), .pointer none] 70 (0, 0)) := by
        rw [hW4, ← hsz]
        exact heap_alloc_new w3 _
      have hst3 : St w3 B bs bv bo bw 1 (Oof I (hasL I now left)) := by
        obtain ⟨ob, ho⟩ := g1.os
        have e : ∀ j, j < wr.heap.size → (∃ es c, wr.heap[j]? = some (.map es c)) ∨ j = bs → w3.heap[j]? = wr.heap[j]? := fun j hj h => hg.block j hj (fun e => by
          have e := Option.some.inj e
          obtain ⟨_, _, _, _, _, _, _, hit, _⟩ := g4
          rcases h with ⟨es, c, hm⟩ | h
          · rw [e, hit] at hm
            cases hm
          · have := g1.c
            rw [← h, e, hit] at this
            cases this)
        have mp : ∀ {b N nm f}, MapT wr b N nm f → w3.heap[b]? = wr.heap[b]? := fun h => e _ h.lt (.inl (by obtain ⟨es, c, hm, _⟩ := h; exact ⟨es, c, hm⟩))
        exact ⟨(e bs (Array.getElem?_eq_some_iff.1 g1.c).1 (.inr rfl)).trans g1.c, (e bw (Array.getElem?_eq_some_iff.1 g1.wt).1 (.inl ⟨_, _, g1.wt⟩)).trans g1.wt, g1.k, ob, ho.kept (mp ho.map) (fun k b hk hbb => mp (ho.inn k b hk hbb).1)⟩
      have hBr : B ≤ r := by have := HB.out; omega
      have hb3 : Below B w w3 := g2.trans (grown_below hg (by omega) (fun j hj => by cases hj; exact hBr))
      have hb4 : Below B w W4 := hb3.trans (below_le b34 (by omega))
      have hkx3 : KX bs w w3 := HKX.out.grown hg (fun j hj => by cases hj; omega)
      have HKX3 : Hid (KX bs w w3) := hkx3
      have H4 : Hid (Below w3.heap.size w3 W4 ∧ Tc w3 X (tnN now) (tnS now) ∧ St w3 B bs bv bo bw 1 (Oof I (hasL I now left)) ∧ Below B w w3 ∧ RngT w3 bv r 4 vv (Vof I (hasL I now left)) (strike left i) cnt3 ∧ X < w3.heap.size ∧ B ≤ w3.heap.size ∧ left i = true) := ⟨b34, hX3, hst3, hb3, hr3, by omega, by omega, hli⟩
      obtain ⟨x0, x1, x2, _⟩ := hX4.cells
      have z1 : W4.cell? ⟨wr.heap.size, 1, none⟩ = some (.int .u64 (tnN (I.lp i))) := by simp [World.cell?, y1]
      have z2 : W4.cell? ⟨wr.heap.size, 2, none⟩ = some (.int .i64 (tnS (I.lp i))) := by simp [World.cell?, y1]
      have z3 : W4.cell? ⟨wr.heap.size, 3, none⟩ = some (.pointer none) := by simp [World.cell?, y1]
      rw [← hW4]
      clear hW4 b3 b34 g1 g2 g3 g4 hr3 hg hst3 hb3 hb4 hX3 hX4 y1 HST2 hen HEN
      have hbef := before_D now (I.lp i) W4
      unfold tD tn at hbef
      have HHI : Hid (SlS w B (I.sl i) (I.Hs i) ∧ (∀ h ∈ I.Hs i, h < 3) ∧ (I.Hs i).length ≤ 256) := ⟨(HI.out i hi).1, (HI.out i hi).2.1, (HI.out i hi).2.2.1⟩
      by_cases hnow : now < I.lp i
      · have hdec : decide (now < I.lp i) = true := by simpa using hnow
        rw [hdec] at hbef
        go_wp2_with fail
        refine hbef.mono ?_
        rintro e w5 ⟨rfl, hb5⟩
        go_wp2_with fail
        obtain ⟨k1, k2, k3, k4, k5, k6, k7, k8⟩ := H4.out
        have b5 : Below w3.heap.size w3 w5 := k1.trans (below_le hb5 k1.size)
        have k5' := k5.below (Nat.le_refl _) b5
        refine ⟨⟨strike left i, cnt3, k5'.congr (fun v _ => Vof_congr (hasL_stay I now left i k8 hnow v)) (fun _ _ => rfl), (k3.below (Nat.le_refl _) b5).congr (fun h v _ _ => Oof_congr (hasL_stay I now left i k8 hnow v)), k4.trans (below_le b5 k7), k2.other (b5.block X k6), HKX3.out.step (NM.ofBelow b5 (Nat.le_refl _))⟩, ?_⟩
        rw [k5'.left_eq, HM.out]
        exact hlt
      · have hdec : decide (now < I.lp i) = false := by simpa using hnow
        rw [hdec] at hbef
        go_wp2_with fail
        refine hbef.mono ?_
        rintro e w5 ⟨rfl, hb5⟩
        go_wp2_with fail
        obtain ⟨k1, k2, k3, k4, k5, k6, k7, k8⟩ := H4.out
        have b5 : Below w3.heap.size w3 w5 := k1.trans (below_le hb5 k1.size)
        have hV5 : Vof I (hasL I now left) i = some (.agg #[I.sl i, .int .u64 (tnN (I.lp i)), .int .i64 (tnS (I.lp i)), .pointer none]) := by
          unfold Vof
          rw [hk1]
          rfl
        refine (drop_any B bs bv bo bw r i hi (Vof I (hasL I now left)) (Oof I (hasL I now left)) (strike left i) cnt3 (I.Hs i) (I.sl i) _ _ w5 (k3.below (Nat.le_refl _) b5) (k5.below (Nat.le_refl _) b5) hV5 (HHI.out.1.below (k4.trans (below_le b5 k7))) HHI.out.2.1 HHI.out.2.2).mono ?_
        rintro e w6 ⟨rfl, cnt6, hc6, hr6, hst6, hb6, hnm6, hsz6⟩
        have HE : Hid (RngT w6 bv r 4 vv (Vof I (hasL I now (strike left i))) (strike left i) cnt6 ∧ St w6 B bs bv bo bw 1 (Oof I (hasL I now (strike left i))) ∧ Below B w w6 ∧ Tc w6 X (tnN now) (tnS now) ∧ KX bs w w6) := by
          refine ⟨hr6.congr (fun v _ => ?_) (fun v _ => by rw [strike_twice]), hst6.congr (fun h v _ _ => ?_), (k4.trans (below_le b5 k7)).trans hb6, hnm6 X _ (k2.other (b5.block X k6)) (by intro es c e; cases e), (HKX3.out.step (NM.ofBelow b5 (Nat.le_refl _))).step hnm6⟩
          · unfold upd Vof
            rw [hasL_go I now left i (by omega) v]
            by_cases e : v = i
            · simp [e]
            · have e' : (v == i) = false := by simpa using e
              simp [e, e']
          · unfold cutN Oof
            rw [hasL_go I now left i (by omega) v]
            by_cases e : v = i
            · subst e
              cases hasL I now left v <;> cases (I.Hs v).contains h <;> simp
            · have e' : (v == i) = false := by simpa using e
              simp [e']
        clear H4 k1 k2 k3 k4 k5 k6 k7 b5 hV5 hr6 hst6 hb6 hnm6 hsz6 hb5
        go_wp2_with fail
        refine ⟨⟨strike left i, cnt6, HE.out⟩, ?_⟩
        rw [HE.out.1.left_eq, HM.out]
        omega
end Go.Proofs.Ybulkbofk
