/- What law B's walk leans on. -/
import Derived.Test.YbulkbofkPre
import Derived.Deep.RegionHeld3
import Derived.Carry
import Derived.Maps.AppendAt
namespace Go.Proofs.Ybulkbofk
open Go.RowKit

theorem Yba.info9 : (Yba.prog.info? 9).map (fun i => (i.zero, i.size, i.bytes)) = some (some (.string ByteArray.empty), 1, 16) := by kernel_rfl
theorem host_s (i : Nat) (hi : i < 3) (w : World) : Calls Yba.prog 10 #[.int .i64 i] w fun e w' => e = .returned (.string (hn i)) ∧ w' = w := host_any i hi w
theorem SlL.mono {w : World} {L L' : Nat} {u : Value} {q : List Nat} (h : SlL w L u q) (hL : L' ≤ L) : SlL w L' u q := by
  obtain ⟨a, c, rfl, hc⟩ := h
  refine ⟨a, c, rfl, fun hne => ?_⟩
  obtain ⟨b, h1, h2, h3⟩ := hc hne
  exact ⟨b, by omega, h2, h3⟩

theorem owns_block {w : World} {base : Nat} {e : TypeId} {s n : Nat} {u : Value} {xs : List Value} (h : w.ownsRow base e s u n xs) (j : Nat) (hj : u.ownBlock = some j) : base ≤ j := by
  rcases h.2 with ⟨rfl, _⟩ | ⟨g, cap, cur, rfl, hb, _⟩
  · cases hj
  · simp [Value.ownBlock] at hj
    omega

theorem mapT_empty {w : World} {b N : Nat} {nm : Nat → Value} (h : w.heap[b]? = some (.map #[] 0)) : MapT w b N nm (fun _ => none) :=
  ⟨#[], 0, h, Go.MapKept.stamped_empty 0, by simp, by simp⟩

/-- The viewers below v. -/
def upto (I : Inp) (v : Nat) : Nat → Bool := fun u => I.has u && decide (u < v)

/-- The second part's state: what the first part built stays, and the zero time. -/
structure P2 (W1 W : World) (C : Nat) (I : Inp) (k : Nat → Bool) (O : Nat → Nat → Bool) : Prop where
  st : St W C (C + 4) (C + 1) (C + 2) (C + 3) 0 O
  mp : MapT W (C + 1) 4 vv (Vof I k)
  b : Below C W1 W
  t : Tc W C 0 0

theorem P2.congr {W1 W : World} {C : Nat} {I : Inp} {k k' : Nat → Bool} {O O' : Nat → Nat → Bool} (h : P2 W1 W C I k O) (hk : ∀ v, v < 4 → k v = k' v) (hO : ∀ h v, h < 3 → v < 4 → O h v = O' h v) : P2 W1 W C I k' O' :=
  ⟨h.st.congr hO, h.mp.congr (fun v hv => Vof_congr (hk v hv)), h.b, h.t⟩
def addQ (O : Nat → Nat → Bool) (q : List Nat) (v : Nat) : Nat → Nat → Bool := fun h' v' => O h' v' || (v' == v && q.contains h')
theorem addQ_step (O : Nat → Nat → Bool) (q : List Nat) (v k : Nat) (hk : k < q.length) (h' v' : Nat) : add1 (addQ O (q.take k) v) (q.getD k 0) v h' v' = addQ O (q.take (k + 1)) v h' v' := by
  have e : q.take (k + 1) = q.take k ++ [q.getD k 0] := by
    rw [List.take_add_one, List.getElem?_eq_getElem hk]
    simp [List.getD_eq_getElem?_getD, hk]
  unfold add1 addQ
  rw [e]
  clear e
  generalize q.getD k 0 = h
  simp only [List.contains_eq_mem, List.mem_append, List.mem_singleton]
  by_cases h1 : v' = v
  · subst h1
    by_cases h2 : h' = h <;> by_cases h3 : h' ∈ q.take k <;> simp [h2, h3]
  · have h1' : (v' == v) = false := by simpa using h1
    simp [h1']
theorem upto_skip (I : Inp) (v u : Nat) (h : I.has v = false) : upto I v u = upto I (v + 1) u := by
  unfold upto
  by_cases e : u = v
  · subst e; simp [h]
  · have : (u < v) ↔ (u < v + 1) := by omega
    simp [this]
theorem upto_put (I : Inp) (v u : Nat) (h : I.has v = true) : upd (Vof I (upto I v)) v (some (vw (I.sl v) (I.lp v))) u = Vof I (upto I (v + 1)) u := by
  unfold upd Vof upto
  by_cases e : u = v
  · subst e; simp [h]
  · have : (u < v) ↔ (u < v + 1) := by omega
    simp [e, this]
theorem upto_add (I : Inp) (v h' u : Nat) (h : I.has v = true) : addQ (Oof I (upto I v)) (I.Hs v) v h' u = Oof I (upto I (v + 1)) h' u := by
  unfold addQ Oof upto
  by_cases e : u = v
  · subst e; simp [h]
  · have e' : (u == v) = false := by simpa using e
    have : (u < v) ↔ (u < v + 1) := by omega
    simp [e', this]
theorem St.turnV {w w' : World} {B bs bv bo bw : Nat} {st : Int} {O : Nat → Nat → Bool} (h : St w B bs bv bo bw st O) (ht : w.mapTurned w' bv) : St w' B bs bv bo bw st O := by
  obtain ⟨ob, ho⟩ := h.os
  have hk := h.k
  exact h.turned ht (Ne.symm hk.2.2.2.2.2.1) (ho.kept (turned_heap ht (Ne.symm hk.2.2.2.2.1)) (fun k b hk hb => turned_heap ht (ho.inn k b hk hb).2.2.2.1))
theorem Tc.nm {w w' : World} {B n : Nat} {s : Int} (h : Tc w B n s) (k : NM w w') : Tc w' B n s := k _ _ h (by intro es c e; cases e)
theorem addN' (D : Int) (w : World) (hD : -9223372036854775808 ≤ D ∧ D ≤ 9223372036854775807) :
    Calls Yba.prog 13 #[.agg #[.int .u64 0, .int .i64 0, .pointer none], .int .i64 D] w fun e w' => e = .returned (.agg #[.int .u64 (tnN D), .int .i64 (tnS D), .pointer none]) ∧ Below w.heap.size w w' := addN D w hD

theorem P2.start (w : World) (I : Inp) : P2 w (((((w.alloc (.cells #[.int .u64 0, .int .i64 0, .pointer none] 28)).alloc (.map #[] 0)).alloc (.map #[] 0)).alloc (.map #[] 0)).alloc (.cells #[.int .i32 0, .int .u32 0, .map (some (w.heap.size + 1)), .map (some (w.heap.size + 2)), .map (some (w.heap.size + 3))] 82)) w.heap.size I (upto I 0) (Oof I (upto I 0)) := by
  obtain ⟨w1, h1⟩ : ∃ w1, w1 = w.alloc (.cells #[.int .u64 0, .int .i64 0, .pointer none] 28) := ⟨_, rfl⟩
  obtain ⟨w2, h2⟩ : ∃ w2, w2 = w1.alloc (.map #[] 0) := ⟨_, rfl⟩
  obtain ⟨w3, h3⟩ : ∃ w3, w3 = w2.alloc (.map #[] 0) := ⟨_, rfl⟩
  obtain ⟨w4, h4⟩ : ∃ w4, w4 = w3.alloc (.map #[] 0) := ⟨_, rfl⟩
  obtain ⟨w5, h5⟩ : ∃ w5, w5 = w4.alloc (.cells #[.int .i32 0, .int .u32 0, .map (some (w.heap.size + 1)), .map (some (w.heap.size + 2)), .map (some (w.heap.size + 3))] 82) := ⟨_, rfl⟩
  rw [← h1, ← h2, ← h3, ← h4, ← h5]
  have z1 : w1.heap.size = w.heap.size + 1 := by rw [h1]; simp
  have z2 : w2.heap.size = w.heap.size + 2 := by rw [h2]; simp [z1]
  have z3 : w3.heap.size = w.heap.size + 3 := by rw [h3]; simp [z2]
  have z4 : w4.heap.size = w.heap.size + 4 := by rw [h4]; simp [z3]
  have e1 : w1.heap[w.heap.size]? = _ := h1 ▸ heap_alloc_new w _
  have e2 : w2.heap[w.heap.size + 1]? = _ := z1 ▸ (h2 ▸ heap_alloc_new w1 _)
  have e3 : w3.heap[w.heap.size + 2]? = _ := z2 ▸ (h3 ▸ heap_alloc_new w2 _)
  have e4 : w4.heap[w.heap.size + 3]? = _ := z3 ▸ (h4 ▸ heap_alloc_new w3 _)
  have e5 : w5.heap[w.heap.size + 4]? = _ := z4 ▸ (h5 ▸ heap_alloc_new w4 _)
  have k5 : ∀ i, i < w4.heap.size → w5.heap[i]? = w4.heap[i]? := fun i hi => by rw [h5]; exact Below.heap_alloc _ _ _ hi
  have k4 : ∀ i, i < w3.heap.size → w4.heap[i]? = w3.heap[i]? := fun i hi => by rw [h4]; exact Below.heap_alloc _ _ _ hi
  have k3 : ∀ i, i < w2.heap.size → w3.heap[i]? = w2.heap[i]? := fun i hi => by rw [h3]; exact Below.heap_alloc _ _ _ hi
  have k2 : ∀ i, i < w1.heap.size → w2.heap[i]? = w1.heap[i]? := fun i hi => by rw [h2]; exact Below.heap_alloc _ _ _ hi
  have g4 : w5.heap[w.heap.size + 3]? = some (.map #[] 0) := (k5 _ (by omega)).trans e4
  have g3 : w5.heap[w.heap.size + 2]? = some (.map #[] 0) := (k5 _ (by omega)).trans ((k4 _ (by omega)).trans e3)
  have g2 : w5.heap[w.heap.size + 1]? = some (.map #[] 0) := (k5 _ (by omega)).trans ((k4 _ (by omega)).trans ((k3 _ (by omega)).trans e2))
  have g1 : w5.heap[w.heap.size]? = some (.cells #[.int .u64 0, .int .i64 0, .pointer none] 28 (0, 0)) := (k5 _ (by omega)).trans ((k4 _ (by omega)).trans ((k3 _ (by omega)).trans ((k2 _ (by omega)).trans e1)))
  refine ⟨⟨e5, g4, (by omega), fun _ => none, ⟨(mapT_empty g3).congr (fun i _ => rfl), fun h b _ hb => (by cases hb), fun h h' b _ _ hb => (by cases hb), fun h v _ _ _ => (by simp [Oof, upto])⟩⟩, (mapT_empty g2).congr (fun i _ => by simp [Vof, upto]), ?_, g1⟩
  rw [h5, h4, h3, h2, h1]
  exact (((((Below.refl _ _).alloc (Nat.le_refl _) _).alloc (by simp) _).alloc (by simp; omega) _).alloc (by simp; omega) _).alloc (by simp; omega) _

theorem newSubs2 (w : World) : Calls Yba.prog 11 #[] (w.alloc (.cells #[.int .u64 0, .int .i64 0, .pointer none] 28)) fun e w' => e = .returned (.pointer (some ⟨w.heap.size + 4, 0, none⟩)) ∧ ∀ I, P2 w w' w.heap.size I (upto I 0) (Oof I (upto I 0)) := by
  refine (newSubs_any _).mono ?_
  rintro e w' ⟨rfl, rfl⟩
  have z : (w.alloc (.cells #[.int .u64 0, .int .i64 0, .pointer none] 28)).heap.size = w.heap.size + 1 := by simp
  rw [z]
  exact ⟨rfl, fun I => P2.start w I⟩


theorem eqM (x y : Option Nat) (h : y = none) (w : World) : (Op.equalIn Op.maxDepth 83 (.map x) (.map y)).run Yba.prog w = .ok (x == y) w := by
  subst h
  have e : Op.maxDepth = (Op.maxDepth - 1) + 1 := by decide
  rw [e]
  unfold Op.equalIn
  cases x <;> simp [Yba.runUnderlying83, Result.andThen]
theorem eqNilMap (b : Nat) (w : World) : (binOp BinOp.eql 83 (.map (some b)) (.map none)).run Yba.prog w = .ok (.bool false) w := by
  simp [binOp, go_sem, Op.equal, Result.andThen, eqM (some b) none rfl]
theorem eqNilMap0 (w : World) : (binOp BinOp.eql 83 (.map none) (.map none)).run Yba.prog w = .ok (.bool true) w := by
  simp [binOp, go_sem, Op.equal, Result.andThen, eqM none none rfl]

theorem P2.turn1 {W1 W W' : World} {C b : Nat} {I : Inp} {k : Nat → Bool} {O O' : Nat → Nat → Bool} {ob : Nat → Option Nat} (h : P2 W1 W C I k O) (ht : W.mapTurned W' b) (hb : C ≤ b ∧ b ≠ C + 1 ∧ b ≠ C + 3) (ho : OS W' C (C + 1) (C + 2) (C + 3) O' ob) : P2 W1 W' C I k O' :=
  ⟨h.st.turned ht hb.2.2 ho, h.mp.kept (turned_heap ht (Ne.symm hb.2.1)), h.b.trans (turned_below ht hb.1), h.t.nm ((NM.refl _).turned ht)⟩
theorem P2.put0 {W1 W w1 W' : World} {C : Nat} {I : Inp} {k : Nat → Bool} {O O' : Nat → Nat → Bool} {ob : Nat → Option Nat} (h : P2 W1 W C I k O) (ht : (W.alloc (.map #[] 0)).mapTurned w1 (C + 2)) (ht2 : w1.mapTurned W' W.heap.size) (ho : OS W' C (C + 1) (C + 2) (C + 3) O' ob) : P2 W1 W' C I k O' := by
  have l1 := h.mp.lt
  have l3 : C + 3 < W.heap.size := (Array.getElem?_eq_some_iff.1 h.st.wt).1
  have l4 : C + 4 < W.heap.size := (Array.getElem?_eq_some_iff.1 h.st.c).1
  have e : ∀ i, i < W.heap.size → i ≠ C + 2 → W'.heap[i]? = W.heap[i]? := fun i hi hne => by
    rw [turned_heap ht2 (by omega), turned_heap ht hne]
    exact Below.heap_alloc _ _ _ hi
  refine ⟨⟨(e _ l4 (by omega)).trans h.st.c, (e _ l3 (by omega)).trans h.st.wt, h.st.k, ob, ho⟩, h.mp.kept (e _ l1 (by omega)), ?_, h.t.other (e _ (by omega) (by omega))⟩
  exact ((h.b.trans ((Below.refl _ _).alloc (by omega) _)).trans (turned_below ht (by omega))).trans (turned_below ht2 (by omega))

theorem P2.below {W1 W W' : World} {C K : Nat} {I : Inp} {k : Nat → Bool} {O : Nat → Nat → Bool} (h : P2 W1 W C I k O) (hK : W.heap.size ≤ K) (hb : Below K W W') : P2 W1 W' C I k O :=
  ⟨h.st.below hK hb, h.mp.kept (hb.block _ (Nat.lt_of_lt_of_le h.mp.lt hK)), h.b.trans (below_le hb (by have := h.mp.lt; omega)), h.t.other (hb.block _ (by have := h.mp.lt; omega))⟩
theorem NM.cell {w w' : World} (h : NM w w') {a : Addr} {x : Value} (hc : w.cell? a = some x) : w'.cell? a = some x := by
  unfold World.cell? at hc ⊢
  cases ho : w.heap[a.block]? with
  | none => simp [ho] at hc
  | some o =>
    have := h a.block o ho (by
      intro es c e
      subst e
      simp [ho] at hc)
    rw [this]
    rw [ho] at hc
    exact hc
theorem SlS.nm {w w' : World} {B : Nat} {u : Value} {q : List Nat} (h : SlS w B u q) (k : NM w w') : SlS w' B u q := by
  obtain ⟨a, c, rfl, hc⟩ := h
  refine ⟨a, c, rfl, fun hne => ?_⟩
  obtain ⟨b, hb, rfl, hcell⟩ := hc hne
  exact ⟨b, hb, rfl, fun j hj => k.cell (hcell j hj)⟩
theorem names_getD (q : List Nat) (j : Nat) (hj : j < q.length) : (q.map hn).getD j ByteArray.empty = hn (q.getD j 0) := by
  simp [List.getD_eq_getElem?_getD, List.getElem?_eq_getElem hj]
theorem equal_sl (B : Nat) (a : Option Addr) (n c : Nat) (q : List Nat) (w : World) (h : SlS w B (.slice a n c) q) (hl : q.length ≤ 256) : Calls Yba.prog 15 #[.slice a n c, .slice a n c] w fun e w' => e = .returned (.bool true) ∧ Below w.heap.size w w' := by
  obtain ⟨a', c', e, hc⟩ := h
  injection e with e1 e2 e3
  subst e1 e2 e3
  by_cases hq : q = []
  · subst hq
    refine (equal_s0 a c w).mono ?_
    rintro e w' ⟨rfl, rfl⟩
    exact ⟨rfl, Below.refl _ _⟩
  · obtain ⟨b, _, rfl, hcell⟩ := hc hq
    refine (equal_s b 0 q.length c (q.map hn) w (by simp) (by omega) (fun j hj => ?_)).mono ?_
    · rw [List.length_map] at hj
      rw [names_getD q j hj, Nat.zero_add]
      exact hcell j hj
    · rintro e w' ⟨rfl, x, rfl⟩
      exact ⟨rfl, ⟨rfl, rfl, rfl, Nat.le_refl _, fun _ _ => rfl⟩⟩
theorem contains_sl (B : Nat) (a : Option Addr) (n c h : Nat) (q : List Nat) (w : World) (hs : SlS w B (.slice a n c) q) (hl : q.length ≤ 256) (hq : ∀ h ∈ q, h < 3) (hh : h < 3) : Calls Yba.prog 16 #[.slice a n c, hv h] w fun e w' => e = .returned (.bool (q.contains h)) ∧ w' = w := by
  obtain ⟨a', c', e, hc⟩ := hs
  injection e with e1 e2 e3
  subst e1 e2 e3
  by_cases hne : q = []
  · subst hne
    exact contains_s0 a c (hn h) w
  · obtain ⟨b, _, rfl, hcell⟩ := hc hne
    refine (contains_s b 0 q.length c (q.map hn) (hn h) w (by simp) (by omega) (fun j hj => ?_)).mono ?_
    · rw [List.length_map] at hj
      rw [names_getD q j hj, Nat.zero_add]
      exact hcell j hj
    · rintro e w' ⟨rfl, rfl⟩
      refine ⟨?_, rfl⟩
      have e1 : (0 ≤ Lib.idxOfS (q.map hn) (hn h)) ↔ h ∈ q := by
        rw [Lib.idxOfS_nonneg_iff, List.mem_map]
        constructor
        · rintro ⟨x, hx, e⟩
          rw [← hn_inj x h (hq x hx) hh e]
          exact hx
        · exact fun hx => ⟨h, hx, rfl⟩
      rw [Bool.eq_iff_iff.2 (by rw [decide_eq_true_iff, List.contains_iff_mem]; exact e1 : (decide (0 ≤ Lib.idxOfS (q.map hn) (hn h)) = true) ↔ (q.contains h = true))]
theorem equal_D' (D : Int) (w : World) : Calls Yba.prog 9 #[.agg #[.int .u64 (tnN D), .int .i64 (tnS D), .pointer none], .agg #[.int .u64 (tnN D), .int .i64 (tnS D), .pointer none]] w fun e w' => e = .returned (.bool true) ∧ Below w.heap.size w w' := equal_D D w
theorem prune' (B bs bv bo bw : Nat) (I : Inp) (now : Int) (w : World) (hst : St w B bs bv bo bw 0 (Oof I I.has)) (hV : MapT w bv 4 vv (Vof I I.has)) (hI : I.ok w B) :
    Calls Yba.prog 14 #[.pointer (some ⟨bs, 0, none⟩), .agg #[.int .u64 (tnN now), .int .i64 (tnS now), .pointer none]] w fun e w' => e = .returned (.tuple #[]) ∧ St w' B bs bv bo bw 0 (Oof I (keepOf I now)) ∧ MapT w' bv 4 vv (Vof I (keepOf I now)) ∧ Below B w w' ∧ KX bs w w' := prune_any B bs bv bo bw I now w hst hV hI

theorem below_next {A b c : World} (h : Below A.heap.size A b) (k : Below b.heap.size b c) : Below A.heap.size A c := h.trans (below_le k h.size)

/-- How many of the first v are kept. -/
def cntK (k : Nat → Bool) (v : Nat) : Nat := ((List.range v).filter k).length
theorem cntK_step (k : Nat → Bool) (v : Nat) : cntK k (v + 1) = cntK k v + if k v then 1 else 0 := by
  unfold cntK
  rw [List.range_succ, List.filter_append, List.length_append]
  cases h : k v <;> simp [h]
theorem cntK_le (k : Nat → Bool) (v : Nat) : cntK k v ≤ v := by
  unfold cntK
  have := List.length_filter_le k (List.range v)
  simpa using this

theorem cnt_inf (O : Nat → Nat → Bool) (h N : Nat) : cntT N (inf O h) = cntK (O h) N := by
  unfold cntT cntK inf
  congr 1
  apply List.filter_congr
  intro v _
  cases O h v <;> simp
theorem cnt_V (I : Inp) (k : Nat → Bool) (N : Nat) : cntT N (Vof I k) = cntK k N := by
  unfold cntT cntK Vof
  congr 1
  apply List.filter_congr
  intro v _
  cases k v <;> simp
theorem cntK_pos {k : Nat → Bool} {N : Nat} : 0 < cntK k N ↔ ∃ i, i < N ∧ k i = true := by
  unfold cntK
  rw [List.length_pos_iff_exists_mem]
  constructor
  · rintro ⟨i, hi⟩
    obtain ⟨h1, h2⟩ := List.mem_filter.1 hi
    exact ⟨i, List.mem_range.1 h1, h2⟩
  · rintro ⟨i, h1, h2⟩
    exact ⟨i, List.mem_filter.2 ⟨List.mem_range.2 h1, h2⟩⟩
/-- The hosts that somebody names. -/
def live (O : Nat → Nat → Bool) (h : Nat) : Bool := decide (0 < cntK (O h) 4)
theorem OS.live_some {w : World} {B bv bo bw : Nat} {O : Nat → Nat → Bool} {ob : Nat → Option Nat} (s : OS w B bv bo bw O ob) {h b : Nat} (hh : h < 3) (hb : ob h = some b) : 0 < cntK (O h) 4 :=
  cntK_pos.2 (s.inn h b hh hb).2.1
theorem OS.live_none {w : World} {B bv bo bw : Nat} {O : Nat → Nat → Bool} {ob : Nat → Option Nat} (s : OS w B bv bo bw O ob) {h : Nat} (hh : h < 3) (hb : ob h = none) : cntK (O h) 4 = 0 := by
  rcases Nat.eq_zero_or_pos (cntK (O h) 4) with e | e
  · exact e
  · obtain ⟨v, hv, hO⟩ := cntK_pos.1 e
    rw [s.non h v hh hv hb] at hO
    cases hO
theorem OS.live_cnt {w : World} {B bv bo bw : Nat} {O : Nat → Nat → Bool} {ob : Nat → Option Nat} (s : OS w B bv bo bw O ob) : cntT 3 (obf ob) = cntK (live O) 3 := by
  unfold cntT
  conv => rhs; unfold cntK
  congr 1
  apply List.filter_congr
  intro h hh
  have hh := List.mem_range.1 hh
  unfold live obf
  cases hb : ob h with
  | none => simp [s.live_none hh hb]
  | some b => simp [s.live_some hh hb]
theorem cnt_none (N : Nat) : cntT N (fun _ => none) = 0 := by simp [cntT]
/-- What looking up a host, then a viewer, gives. -/
theorem OS.look2 {w : World} {B bv bo bw : Nat} {O : Nat → Nat → Bool} {ob : Nat → Option Nat} (s : OS w B bv bo bw O ob) {h v : Nat} (hh : h < 3) (hv' : v < 4) :
    (Instr.lookup 83 ((obf ob h).getD (.map none)) (vv v) false).run Yba.prog w = .ok (.bool (O h v)) w := by
  unfold obf
  cases hb : ob h with
  | none =>
    obtain ⟨kl, hkl⟩ := tabV.key v hv'
    rw [s.non h v hh hv' hb]
    exact look_nil keyed9 Yba.underlying83 (Yba.zeroValue4 w) hkl
  | some b =>
    have := (s.inn h b hh hb).1.look tabV Yba.underlying83 (Yba.zeroValue4 w) hv' false
    simp only [Option.map_some, Option.getD_some]
    rw [this]
    unfold inf
    cases O h v <;> simp
theorem OS.drewN {w : World} {B bv bo bw : Nat} {O : Nat → Nat → Bool} {ob : Nat → Option Nat} (s : OS w B bv bo bw O ob) (q : Nat) : OS (w.drewN q) B bv bo bw O ob := s.kept rfl (fun _ _ _ _ => rfl)

end Go.Proofs.Ybulkbofk
