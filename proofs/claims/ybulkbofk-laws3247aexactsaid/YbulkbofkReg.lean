/-
  A region that draws its order, by an invariant: the region in which the law calls latestValues.
-/
import Derived.Test.YbulkbofkLatest
import Derived.Orders
namespace Go.Proofs.Ybulkbofk
open Go.RowKit

theorem ready_iff (md : Region.Mode) (ops : Array Oper) (L : Array Bool) (i : Nat) : i ∈ Region.ready md ops L ↔ i < ops.size ∧ L.getD i true = false ∧ ((ops[i]?).map (·.after.all fun e => !Region.binds md e || L.getD e.on false)).getD false = true := by
  simp [Region.ready, List.mem_filter]

theorem count_set (l : List Bool) (i : Nat) (h : l[i]? = some false) : (l.set i true).count false + 1 = l.count false := by
  induction l generalizing i with
  | nil => simp at h
  | cons b l ih =>
    cases i with
    | zero =>
      simp at h
      subst h
      simp
    | succ i =>
      have := ih i (by simpa using h)
      simp only [List.set_cons_succ, List.count_cons]
      omega

/-- WHATEVER THE ORDER: an invariant on what is listed, the frame and the world. -/
theorem wpAny_inv {P : Program} {ops : Array Oper} {Q : Exit → Act → World → Prop} {md : Region.Mode} (J : Array Bool → Act → World → Prop) (hsz : ∀ L a w, J L a w → L.size = ops.size)
    (step : ∀ L a w i, J L a w → i ∈ Region.ready md ops L → wpOp P ops Q i (fun a' w' => J (L.setIfInBounds i true) a' w') a w)
    (fin : ∀ L a w, J L a w → Region.ready md ops L = [] → Q .normal a w) :
    ∀ (fuel : Nat) (L : Array Bool) (a : Act) (w : World), J L a w → L.toList.count false ≤ fuel → wpAny P md ops Q fuel L a w
  | 0, L, a, w, h, hc => by
    have hr : Region.ready md ops L = [] := by
      apply List.eq_nil_iff_forall_not_mem.2
      intro i hi
      obtain ⟨h1, h2, _⟩ := (ready_iff md ops L i).1 hi
      have hlt : i < L.size := by rw [hsz L a w h]; exact h1
      have e : L.toList[i]? = some false := by
        rw [Array.getElem?_toList, Array.getElem?_eq_getElem hlt]
        simp [Array.getD, hlt] at h2
        rw [h2]
      have := count_set L.toList i e
      omega
    exact ⟨hr, fin L a w h hr⟩
  | fuel + 1, L, a, w, h, hc => by
    refine ⟨fun hr => fin L a w h hr, fun i hi => wpOp_mono (fun a' w' h' => wpAny_inv J hsz step fin fuel _ a' w' h' ?_) (step L a w i h hi)⟩
    obtain ⟨h1, h2, _⟩ := (ready_iff md ops L i).1 hi
    have hlt : i < L.size := by rw [hsz L a w h]; exact h1
    have e : L.toList[i]? = some false := by
      rw [Array.getElem?_toList, Array.getElem?_eq_getElem hlt]
      simp [Array.getD, hlt] at h2
      rw [h2]
    have := count_set L.toList i e
    rw [Array.toList_setIfInBounds]
    omega

/-- The region's operations. -/
def ops22 : Array Oper :=
  #[{ dst := some 133, op := Op.load 52 (Operand.tmp 20), type := 52, pos := "zz_law_s3247a.go:55", after := #[],
          guard := none },
        { dst := some 134, op := Op.move (Operand.tmp 2), type := 3, pos := "zz_law_s3247a.go:55", after := #[],
          guard := none },
        { dst := some 135, op := Op.move (Operand.tmp 5), type := 21, pos := "zz_law_s3247a.go:55", after := #[],
          guard := none },
        { dst := some 136,
          op := Op.call { callee := Callee.value (Operand.func 6), args := #[Operand.tmp 135], argTypes := #[21] },
          type := 28, pos := "zz_law_s3247a.go:55", after := #[{ on := 2, ground := Ground.data }], guard := none },
        { dst := some 137,
          op :=
            Op.call
              { callee := Callee.value (Operand.func 7), args := #[Operand.tmp 133, Operand.tmp 134, Operand.tmp 136],
                argTypes := #[52, 3, 28] },
          type := 53, pos := "zz_law_s3247a.go:55",
          after :=
            #[{ on := 0, ground := Ground.data }, { on := 1, ground := Ground.data },
              { on := 3, ground := Ground.data }, { on := 3, ground := Ground.chain }],
          guard := none },
        { dst := some 132, op := Op.move (Operand.tmp 137), type := 53, pos := "zz_law_s3247a.go:55",
          after := #[{ on := 4, ground := Ground.data }], guard := none },
        { dst := some 138, op := Op.extract (Operand.tmp 132) 0, type := 32, pos := "zz_law_s3247a.go:55",
          after := #[{ on := 5, ground := Ground.data }], guard := none },
        { dst := some 139, op := Op.extract (Operand.tmp 132) 1, type := 28, pos := "zz_law_s3247a.go:55",
          after := #[{ on := 5, ground := Ground.data }, { on := 11, ground := Ground.gcOnly Departure.lateStores }],
          guard := none },
        { dst := some 140, op := Op.extract (Operand.tmp 132) 2, type := 4, pos := "zz_law_s3247a.go:55",
          after := #[{ on := 5, ground := Ground.data }, { on := 12, ground := Ground.gcOnly Departure.lateStores }],
          guard := none },
        { dst := some 21, op := Op.alloc 32, type := 0, pos := "zz_law_s3247a.go:55", after := #[], guard := none },
        { dst := some 22, op := Op.alloc 28, type := 0, pos := "zz_law_s3247a.go:55", after := #[], guard := none },
        { dst := none, op := Op.store 32 (Operand.tmp 21) (Operand.tmp 138), type := 0, pos := "zz_law_s3247a.go:55",
          after :=
            #[{ on := 9, ground := Ground.data }, { on := 6, ground := Ground.data },
              { on := 4, ground := Ground.chain }, { on := 0, ground := Ground.phase },
              { on := 1, ground := Ground.phase }, { on := 2, ground := Ground.phase },
              { on := 3, ground := Ground.phase }, { on := 4, ground := Ground.phase },
              { on := 5, ground := Ground.phase }, { on := 6, ground := Ground.phase },
              { on := 7, ground := Ground.textOnly Departure.lateStores },
              { on := 8, ground := Ground.textOnly Departure.lateStores }, { on := 9, ground := Ground.phase },
              { on := 10, ground := Ground.phase }],
          guard := none },
        { dst := none, op := Op.store 28 (Operand.tmp 22) (Operand.tmp 139), type := 0, pos := "zz_law_s3247a.go:55",
          after :=
            #[{ on := 10, ground := Ground.data }, { on := 7, ground := Ground.data },
              { on := 11, ground := Ground.chain }, { on := 0, ground := Ground.phase },
              { on := 1, ground := Ground.phase }, { on := 2, ground := Ground.phase },
              { on := 3, ground := Ground.phase }, { on := 4, ground := Ground.phase },
              { on := 5, ground := Ground.phase }, { on := 6, ground := Ground.phase },
              { on := 7, ground := Ground.phase }, { on := 8, ground := Ground.textOnly Departure.lateStores },
              { on := 9, ground := Ground.phase }, { on := 10, ground := Ground.phase },
              { on := 11, ground := Ground.phase }],
          guard := none },
        { dst := some 23, op := Op.assign (Operand.tmp 140), type := 4, pos := "zz_law_s3247a.go:55",
          after :=
            #[{ on := 8, ground := Ground.data }, { on := 12, ground := Ground.chain },
              { on := 0, ground := Ground.phase }, { on := 1, ground := Ground.phase },
              { on := 2, ground := Ground.phase }, { on := 3, ground := Ground.phase },
              { on := 4, ground := Ground.phase }, { on := 5, ground := Ground.phase },
              { on := 6, ground := Ground.phase }, { on := 7, ground := Ground.phase },
              { on := 8, ground := Ground.phase }, { on := 9, ground := Ground.phase },
              { on := 10, ground := Ground.phase }, { on := 11, ground := Ground.phase },
              { on := 12, ground := Ground.phase }],
          guard := none }]

/-- What the plain operations yield. -/
def val22 (hv : Array Value) (pid now : Int) (pl : List Value) (tt : Int) (okb : Bool) : Nat → Option (Nat × Value)
  | 0 => some (133, .agg hv)
  | 1 => some (134, .int .i64 pid)
  | 2 => some (135, .int .i32 now)
  | 3 => some (136, tm now)
  | 4 => some (137, .tuple #[.agg pl.toArray, tm tt, .bool okb])
  | 5 => some (132, .tuple #[.agg pl.toArray, tm tt, .bool okb])
  | 6 => some (138, .agg pl.toArray)
  | 7 => some (139, tm tt)
  | 8 => some (140, .bool okb)
  | 13 => some (23, .bool okb)
  | _ => none
def dst22 : List Nat := [133, 134, 135, 136, 137, 132, 138, 139, 140, 21, 22, 23]

/-- The invariant. -/
structure J22 (T0 : Array Value) (W9 : World) (hv : Array Value) (pid now : Int) (pl : List Value) (tt : Int) (okb : Bool) (L : Array Bool) (a : Act) (w : World) : Prop where
  sz : L.size = 14
  df : a.defers = []
  ts : a.tmps.size = T0.size
  low : Below W9.heap.size W9 w
  out : ∀ t, t ∉ dst22 → a.tmps.getD t undef = T0.getD t undef
  vals : ∀ i d v, val22 hv pid now pl tt okb i = some (d, v) → L.getD i false = true → a.tmps.getD d undef = v
  o9 : L.getD 9 false = true → ∃ R, a.tmps.getD 21 undef = .pointer (some ⟨R, 0, none⟩) ∧ W9.heap.size ≤ R ∧ Pb w R (if L.getD 11 false then pl else zP)
  o10 : L.getD 10 false = true → ∃ T, a.tmps.getD 22 undef = .pointer (some ⟨T, 0, none⟩) ∧ W9.heap.size ≤ T ∧ Tb w T (if L.getD 12 false then tt else 0)
  d11 : L.getD 11 false = true → L.getD 9 false = true
  d12 : L.getD 12 false = true → L.getD 10 false = true

theorem put_get (a : Act) (d t : Nat) (v : Value) (h : d < a.tmps.size) : (a.put (some d) v).tmps.getD t undef = if t = d then v else a.tmps.getD t undef := by
  simp only [Act.put]
  by_cases e : t = d
  · subst e
    simp [h]
  · simp only [if_neg e]
    simp [Array.getD_eq_getD_getElem?, Ne.symm e]

theorem val22_slot {hv : Array Value} {pid now : Int} {pl : List Value} {tt : Int} {okb : Bool} {i j d e : Nat} {v u : Value} (h : val22 hv pid now pl tt okb i = some (d, v)) (k : val22 hv pid now pl tt okb j = some (e, u)) (hne : j ≠ i) : e ≠ d := by
  unfold val22 at h k
  split at h <;> simp at h <;> split at k <;> simp at k <;> omega
theorem val22_in {hv : Array Value} {pid now : Int} {pl : List Value} {tt : Int} {okb : Bool} {i d : Nat} {v : Value} (h : val22 hv pid now pl tt okb i = some (d, v)) : d ∈ dst22 ∧ d ≠ 21 ∧ d ≠ 22 ∧ i ≠ 9 ∧ i ≠ 10 ∧ i ≠ 11 ∧ i ≠ 12 ∧ d < 141 ∧ i < 14 := by
  unfold val22 at h
  split at h <;> simp at h <;> (obtain ⟨rfl, _⟩ := h; simp [dst22])

section
variable {T0 : Array Value} {W9 : World} {hv : Array Value} {pid now : Int} {pl : List Value} {tt : Int} {okb : Bool} {L : Array Bool} {a : Act} {w w' : World}
theorem set_get (i j : Nat) (hi : i < L.size) : (L.setIfInBounds i true).getD j false = if j = i then true else L.getD j false := by
  by_cases e : j = i
  · subst e; simp [hi]
  · simp only [if_neg e]
    simp [Array.getD_eq_getD_getElem?, Ne.symm e]
/-- A plain operation is done. -/
theorem J22.pure (h : J22 T0 W9 hv pid now pl tt okb L a w) (hT : 141 ≤ T0.size) (i d : Nat) (v : Value) (hval : val22 hv pid now pl tt okb i = some (d, v)) : J22 T0 W9 hv pid now pl tt okb (L.setIfInBounds i true) (a.put (some d) v) w := by
  obtain ⟨v1, v2, v3, v4, v5, v6, v7, v8, v9⟩ := val22_in hval
  have hd : d < a.tmps.size := by rw [h.ts]; omega
  have hi : i < L.size := by rw [h.sz]; exact v9
  refine ⟨by simpa using h.sz, h.df, by simpa [Act.put] using h.ts, h.low, fun t ht => ?_, fun j e u hj hl => ?_, fun hl => ?_, fun hl => ?_, fun hl => ?_, fun hl => ?_⟩
  · rw [put_get a d t v hd, if_neg (by rintro rfl; exact ht v1)]
    exact h.out t ht
  · rw [put_get a d e v hd]
    by_cases e1 : j = i
    · subst e1
      rw [hval] at hj
      simp only [Option.some.injEq, Prod.mk.injEq] at hj
      rw [if_pos hj.1.symm]
      exact hj.2
    · rw [if_neg (val22_slot hval hj e1)]
      rw [set_get i j hi, if_neg e1] at hl
      exact h.vals j e u hj hl
  · rw [set_get i 9 hi, if_neg (Ne.symm v4)] at hl
    obtain ⟨R, r1, r2, r3⟩ := h.o9 hl
    refine ⟨R, ?_, r2, ?_⟩
    · rw [put_get a d 21 v hd, if_neg (Ne.symm v2)]; exact r1
    · rw [set_get i 11 hi, if_neg (Ne.symm v6)]; exact r3
  · rw [set_get i 10 hi, if_neg (Ne.symm v5)] at hl
    obtain ⟨R, r1, r2, r3⟩ := h.o10 hl
    refine ⟨R, ?_, r2, ?_⟩
    · rw [put_get a d 22 v hd, if_neg (Ne.symm v3)]; exact r1
    · rw [set_get i 12 hi, if_neg (Ne.symm v7)]; exact r3
  · rw [set_get i 11 hi, if_neg (Ne.symm v6)] at hl
    rw [set_get i 9 hi, if_neg (Ne.symm v4)]
    exact h.d11 hl
  · rw [set_get i 12 hi, if_neg (Ne.symm v7)] at hl
    rw [set_get i 10 hi, if_neg (Ne.symm v5)]
    exact h.d12 hl
/-- The world grows. -/
theorem J22.grow (h : J22 T0 W9 hv pid now pl tt okb L a w) (hb : Below w.heap.size w w') : J22 T0 W9 hv pid now pl tt okb L a w' := by
  refine ⟨h.sz, h.df, h.ts, h.low.trans (hb.mono h.low.size), h.out, h.vals, fun hl => ?_, fun hl => ?_, h.d11, h.d12⟩
  · obtain ⟨R, r1, r2, r3⟩ := h.o9 hl
    exact ⟨R, r1, r2, (hb.block _ (Array.getElem?_eq_some_iff.1 r3).1).trans r3⟩
  · obtain ⟨R, r1, r2, r3⟩ := h.o10 hl
    exact ⟨R, r1, r2, r3.other (hb.block _ (Array.getElem?_eq_some_iff.1 r3).1)⟩
end

/-- What may come up has all that it waits for. -/
theorem listed_of_ready {L : Array Bool} {i : Nat} (h : i ∈ Region.ready .any ops22 L) (k : Nat) (hk : ((ops22[i]?).map fun o => o.after.toList.any fun e => e.on == k && Region.binds .any e) = some true) : L.getD k false = true := by
  obtain ⟨_, _, h3⟩ := (ready_iff .any ops22 L i).1 h
  cases ho : ops22[i]? with
  | none => rw [ho] at hk; cases hk
  | some o =>
    rw [ho] at h3 hk
    simp only [Option.map_some, Option.getD_some, Array.all_eq_true_iff_forall_mem] at h3
    simp only [Option.map_some, Option.some.injEq, List.any_eq_true, Bool.and_eq_true, beq_iff_eq, Array.mem_toList_iff] at hk
    obtain ⟨e, he, h1, h2⟩ := hk
    have := h3 e he
    rw [h2, h1] at this
    simpa using this

section
variable {P : Program} {ops : Array Oper} {Q : Exit → Act → World → Prop} {K : Act → World → Prop} {a : Act} {w : World}
theorem wpOp_do {i : Nat} (o : Oper) (ho : ops[i]? = some o) (hg : o.guard = none) (h : o.wp P a w K Q) : wpOp P ops Q i K a w := by
  unfold wpOp
  simp only [ho]
  rw [if_pos (by simp [Region.wanted, hg])]
  exact .inl h
theorem wp_move {o : Oper} (x : Operand) (ho : o.op = .move x) (h : K (a.put o.dst (a.eval x)) w) : o.wp P a w K Q := by
  unfold Oper.wp execOp
  simp only [ho]
  exact h
theorem wp_assign {o : Oper} (x : Operand) (ho : o.op = .assign x) (h : K (a.put o.dst (a.eval x)) w) : o.wp P a w K Q := by
  unfold Oper.wp execOp
  simp only [ho]
  exact h
theorem wp_extract {o : Oper} (x : Operand) (k : Nat) (vs : Array Value) (v : Value) (ho : o.op = .extract x k) (hx : a.eval x = .tuple vs) (hv : vs[k]? = some v) (h : K (a.put o.dst v) w) : o.wp P a w K Q := by
  unfold Oper.wp execOp
  simp only [ho, hx]
  simp [Instr.extract, hv]
  exact h
theorem wp_call {o : Oper} (f : Nat) (args : Array Operand) (ts : Array TypeId) (vs : Array Value) (ho : o.op = .call { callee := .value (.func f), args := args, argTypes := ts }) (hvs : args.map a.eval = vs) (hf : (callFunc f vs).run P w = .ok (.enter f vs) w)
    (h : Calls P f vs w fun e w' => ∃ v, e = .returned v ∧ K (a.put o.dst v) w') : o.wp P a w K Q := by
  unfold Oper.wp execOp
  simp only [ho]
  have hr : Sem.run P (do
        let d ← resolve a.eval { callee := Callee.value (Operand.func f), args := args, argTypes := ts } o.type
        invoke d.target d.args) w = Result.ok (Next.enter f vs) w := by
    simp [resolve, invoke, Act.eval, go_sem, hvs, hf]
  rw [hr, Oper.upon_enter]
  refine h.mono ?_
  rintro e w' ⟨v, rfl, hk⟩
  exact hk
theorem wp_alloc {o : Oper} (t : TypeId) (z : Value) (ho : o.op = .alloc t) (hz : ∀ w, (zeroValue t).run P w = .ok z w) (h : K (a.put o.dst (.pointer (some ⟨w.heap.size, 0, none⟩))) (w.alloc (.cells z.cells t))) : o.wp P a w K Q := by
  unfold Oper.wp execOp
  simp only [ho]
  have hr : Sem.run P (do
        let __do_lift ← Instr.alloc t true (Value.tuple #[])
        pure (Next.value __do_lift)) w = Result.ok (Next.value (.pointer (some ⟨w.heap.size, 0, none⟩))) (w.alloc (.cells z.cells t)) := by
    simp [Instr.alloc, go_sem, hz]
  rw [hr]
  exact h
end

/-- What is asked of the region. -/
structure In22 (T0 : Array Value) (W9 : World) (Hb : Nat) (hv : Array Value) (pid now : Int) (pl : List Value) (tt : Int) (okb : Bool) : Prop where
  sz : 141 ≤ T0.size
  t20 : T0.getD 20 undef = .pointer (some ⟨Hb, 0, none⟩)
  t2 : T0.getD 2 undef = .int .i64 pid
  t5 : T0.getD 5 undef = .int .i32 now
  host : W9.heap[Hb]? = some (.cells hv 52 (0, 0))
  hvs : hv.size = 22
  c6 : ∀ X, Calls Yba.prog 6 #[.int .i32 now] X fun e w' => e = .returned (tm now) ∧ Below X.heap.size X w'
  c7 : ∀ X, Below W9.heap.size W9 X → Calls Yba.prog 7 #[.agg hv, .int .i64 pid, tm now] X fun e w' => e = .returned (.tuple #[.agg pl.toArray, tm tt, .bool okb]) ∧ Below X.heap.size X w'
  pl13 : pl.length = 13
  one : pl.toArray.all (·.oneCell') = true

theorem callF6 : ∀ args w, (callFunc 6 args).run Yba.prog w = .ok (.enter 6 args) w := fun _ _ => by kernel_rfl
theorem callF7 : ∀ args w, (callFunc 7 args).run Yba.prog w = .ok (.enter 7 args) w := fun _ _ => by kernel_rfl
theorem zero32 (w : World) : (zeroValue 32).run Yba.prog w = .ok (.agg zP.toArray) w := by kernel_rfl
theorem zero28 (w : World) : (zeroValue 28).run Yba.prog w = .ok (tm 0) w := by kernel_rfl

section
variable {Q : Exit → Act → World → Prop} {T0 : Array Value} {W9 : World} {Hb : Nat} {hv : Array Value} {pid now : Int} {pl : List Value} {tt : Int} {okb : Bool} {L : Array Bool} {a : Act} {w : World}
theorem step_a (I : In22 T0 W9 Hb hv pid now pl tt okb) (h : J22 T0 W9 hv pid now pl tt okb L a w) (i : Nat) (hi : i ∈ Region.ready .any ops22 L) (hs : i = 0 ∨ i = 1 ∨ i = 2 ∨ i = 3 ∨ i = 4 ∨ i = 5 ∨ i = 6 ∨ i = 7 ∨ i = 8 ∨ i = 13) :
    wpOp Yba.prog ops22 Q i (fun a' w' => J22 T0 W9 hv pid now pl tt okb (L.setIfInBounds i true) a' w') a w := by
  have ev : ∀ t, a.eval (.tmp t) = a.tmps.getD t undef := fun t => rfl
  rcases hs with rfl | rfl | rfl | rfl | rfl | rfl | rfl | rfl | rfl | rfl
  · refine wpOp_do _ rfl rfl (wp_load_mid 52 (.tmp 20) rfl Hb 0 ?_ hv.toList _ ?_ Yba.underlying52 rfl ?_ ?_)
    · rw [ev, h.out 20 (by simp [dst22]), I.t20]
    · intro j v hj
      have hH : w.heap[Hb]? = some (.cells hv 52 (0, 0)) := (h.low.block _ (Array.getElem?_eq_some_iff.1 I.host).1).trans I.host
      rw [Nat.zero_add]
      simp only [World.cell?, hH]
      rw [← Array.getElem?_toList, hj]
      rfl
    · rw [Yba.size52, Array.length_toList, I.hvs]
    · rw [Array.toArray_toList]
      exact h.pure I.sz 0 133 _ rfl
  · refine wpOp_do _ rfl rfl (wp_move (.tmp 2) rfl ?_)
    rw [ev, h.out 2 (by simp [dst22]), I.t2]
    exact h.pure I.sz 1 134 _ rfl
  · refine wpOp_do _ rfl rfl (wp_move (.tmp 5) rfl ?_)
    rw [ev, h.out 5 (by simp [dst22]), I.t5]
    exact h.pure I.sz 2 135 _ rfl
  · have l2 := listed_of_ready hi 2 rfl
    refine wpOp_do _ rfl rfl (wp_call 6 #[.tmp 135] #[21] #[.int .i32 now] rfl ?_ (callF6 _ _) ((I.c6 w).mono ?_))
    · simp [ev, h.vals 2 135 _ rfl l2]
    · rintro e w' ⟨rfl, hb⟩
      exact ⟨_, rfl, (h.grow hb).pure I.sz 3 136 _ rfl⟩
  · have l0 := listed_of_ready hi 0 rfl
    have l1 := listed_of_ready hi 1 rfl
    have l3 := listed_of_ready hi 3 rfl
    refine wpOp_do _ rfl rfl (wp_call 7 #[.tmp 133, .tmp 134, .tmp 136] #[52, 3, 28] #[.agg hv, .int .i64 pid, tm now] rfl ?_ (callF7 _ _) ((I.c7 w h.low).mono ?_))
    · simp [ev, h.vals 0 133 _ rfl l0, h.vals 1 134 _ rfl l1, h.vals 3 136 _ rfl l3]
    · rintro e w' ⟨rfl, hb⟩
      exact ⟨_, rfl, (h.grow hb).pure I.sz 4 137 _ rfl⟩
  · have l4 := listed_of_ready hi 4 rfl
    refine wpOp_do _ rfl rfl (wp_move (.tmp 137) rfl ?_)
    rw [ev, h.vals 4 137 _ rfl l4]
    exact h.pure I.sz 5 132 _ rfl
  · have l5 := listed_of_ready hi 5 rfl
    refine wpOp_do _ rfl rfl (wp_extract (.tmp 132) 0 #[.agg pl.toArray, tm tt, .bool okb] (.agg pl.toArray) rfl ?_ rfl (h.pure I.sz 6 138 _ rfl))
    rw [ev, h.vals 5 132 _ rfl l5]
  · have l5 := listed_of_ready hi 5 rfl
    refine wpOp_do _ rfl rfl (wp_extract (.tmp 132) 1 #[.agg pl.toArray, tm tt, .bool okb] (tm tt) rfl ?_ rfl (h.pure I.sz 7 139 _ rfl))
    rw [ev, h.vals 5 132 _ rfl l5]
  · have l5 := listed_of_ready hi 5 rfl
    refine wpOp_do _ rfl rfl (wp_extract (.tmp 132) 2 #[.agg pl.toArray, tm tt, .bool okb] (.bool okb) rfl ?_ rfl (h.pure I.sz 8 140 _ rfl))
    rw [ev, h.vals 5 132 _ rfl l5]
  · have l8 := listed_of_ready hi 8 rfl
    refine wpOp_do _ rfl rfl (wp_assign (.tmp 140) rfl ?_)
    rw [ev, h.vals 8 140 _ rfl l8]
    exact h.pure I.sz 13 23 _ rfl
theorem set_ne {i j : Nat} (hi : i < L.size) (h : j ≠ i) : (L.setIfInBounds i true).getD j false = L.getD j false := by rw [set_get i j hi, if_neg h]
theorem not_listed (h : J22 T0 W9 hv pid now pl tt okb L a w) {i : Nat} (hi : i ∈ Region.ready .any ops22 L) : L.getD i false = false ∧ i < 14 := by
  obtain ⟨h1, h2, _⟩ := (ready_iff .any ops22 L i).1 hi
  have h1' : i < 14 := h1
  have : i < L.size := by rw [h.sz]; exact h1'
  refine ⟨?_, h1'⟩
  simpa [Array.getD, this] using h2

theorem vals_set {i j e : Nat} {u : Value} (hj : val22 hv pid now pl tt okb j = some (e, u)) (hi9 : i = 9 ∨ i = 10 ∨ i = 11 ∨ i = 12) : j ≠ i := by
  obtain ⟨_, _, _, v4, v5, v6, v7, _, _⟩ := val22_in hj
  rcases hi9 with rfl | rfl | rfl | rfl <;> assumption

theorem J22.al9 (h : J22 T0 W9 hv pid now pl tt okb L a w) (hT : 141 ≤ T0.size) (hn : L.getD 9 false = false) :
    J22 T0 W9 hv pid now pl tt okb (L.setIfInBounds 9 true) (a.put (some 21) (.pointer (some ⟨w.heap.size, 0, none⟩))) (w.alloc (.cells zP.toArray 32)) := by
  have hd : 21 < a.tmps.size := by rw [h.ts]; omega
  have hi : 9 < L.size := by rw [h.sz]; omega
  have hg := h.grow (w' := w.alloc (.cells zP.toArray 32)) ((Below.refl _ _).alloc (Nat.le_refl _) _)
  have hn11 : L.getD 11 false = false := by
    cases e : L.getD 11 false with
    | false => rfl
    | true => rw [h.d11 e] at hn; cases hn
  refine ⟨by simpa using h.sz, h.df, by simpa [Act.put] using h.ts, hg.low, fun t ht => ?_, fun j e u hj hl => ?_, fun hl => ?_, fun hl => ?_, fun hl => ?_, fun hl => ?_⟩
  · rw [put_get a 21 t _ hd, if_neg (by rintro rfl; exact ht (by simp [dst22]))]
    exact h.out t ht
  · rw [put_get a 21 e _ hd, if_neg (val22_in hj).2.1]
    rw [set_get 9 j hi, if_neg (vals_set hj (by omega))] at hl
    exact h.vals j e u hj hl
  · refine ⟨w.heap.size, ?_, h.low.size, ?_⟩
    · rw [put_get a 21 21 _ hd, if_pos rfl]
    · rw [set_ne (i := 9) (j := 11) hi (by omega), hn11]
      exact heap_alloc_new w _
  · rw [set_ne (i := 9) (j := 10) hi (by omega)] at hl
    obtain ⟨T, r1, r2, r3⟩ := hg.o10 hl
    refine ⟨T, ?_, r2, ?_⟩
    · rw [put_get a 21 22 _ hd, if_neg (by omega)]; exact r1
    · rw [set_ne (i := 9) (j := 12) hi (by omega)]; exact r3
  · rw [set_get 9 9 hi, if_pos rfl]
  · rw [set_ne (i := 9) (j := 12) hi (by omega)] at hl
    rw [set_ne (i := 9) (j := 10) hi (by omega)]
    exact h.d12 hl

theorem J22.al10 (h : J22 T0 W9 hv pid now pl tt okb L a w) (hT : 141 ≤ T0.size) (hn : L.getD 10 false = false) :
    J22 T0 W9 hv pid now pl tt okb (L.setIfInBounds 10 true) (a.put (some 22) (.pointer (some ⟨w.heap.size, 0, none⟩))) (w.alloc (.cells #[.int .u64 0, .int .i64 0, .pointer none] 28)) := by
  have hd : 22 < a.tmps.size := by rw [h.ts]; omega
  have hi : 10 < L.size := by rw [h.sz]; omega
  have hg := h.grow (w' := w.alloc (.cells #[.int .u64 0, .int .i64 0, .pointer none] 28)) ((Below.refl _ _).alloc (Nat.le_refl _) _)
  have hn12 : L.getD 12 false = false := by
    cases e : L.getD 12 false with
    | false => rfl
    | true => rw [h.d12 e] at hn; cases hn
  refine ⟨by simpa using h.sz, h.df, by simpa [Act.put] using h.ts, hg.low, fun t ht => ?_, fun j e u hj hl => ?_, fun hl => ?_, fun hl => ?_, fun hl => ?_, fun hl => ?_⟩
  · rw [put_get a 22 t _ hd, if_neg (by rintro rfl; exact ht (by simp [dst22]))]
    exact h.out t ht
  · rw [put_get a 22 e _ hd, if_neg (val22_in hj).2.2.1]
    rw [set_get 10 j hi, if_neg (vals_set hj (by omega))] at hl
    exact h.vals j e u hj hl
  · rw [set_ne (i := 10) (j := 9) hi (by omega)] at hl
    obtain ⟨T, r1, r2, r3⟩ := hg.o9 hl
    refine ⟨T, ?_, r2, ?_⟩
    · rw [put_get a 22 21 _ hd, if_neg (by omega)]; exact r1
    · rw [set_ne (i := 10) (j := 11) hi (by omega)]; exact r3
  · refine ⟨w.heap.size, ?_, h.low.size, ?_⟩
    · rw [put_get a 22 22 _ hd, if_pos rfl]
    · rw [set_ne (i := 10) (j := 12) hi (by omega), hn12]
      exact heap_alloc_new w _
  · rw [set_ne (i := 10) (j := 11) hi (by omega)] at hl
    rw [set_ne (i := 10) (j := 9) hi (by omega)]
    exact h.d11 hl
  · rw [set_get 10 10 hi, if_pos rfl]

/-- A whole row of a block is stored. -/
theorem setCells_full {B : Nat} {t : TypeId} {vs us : List Value} {W : World} (h : W.heap[B]? = some (.cells vs.toArray t (0, 0))) (hl : us.length = vs.length) :
    (W.setCells B 0 us).heap[B]? = some (.cells us.toArray t (0, 0)) ∧ (∀ b, b ≠ B → (W.setCells B 0 us).heap[b]? = W.heap[b]?) ∧ ∀ n u, Below n u W → n ≤ B → Below n u (W.setCells B 0 us) := by
  rw [setCells_row B t us 0 _ W h (by simp; omega)]
  refine ⟨?_, fun b hb => setRow_other W B b _ hb, fun n u hb hn => ⟨hb.os, hb.tape, hb.output, by simpa [World.setRow] using hb.size, fun k hk => (setRow_other W B k _ (by omega)).trans (hb.block k hk)⟩⟩
  rw [setRow_heap W B _ _ _ _ h]
  simp
  omega

theorem J22.st11 (h : J22 T0 W9 hv pid now pl tt okb L a w) (R : Nat) (h21 : a.tmps.getD 21 undef = .pointer (some ⟨R, 0, none⟩)) (hR : W9.heap.size ≤ R) (hP : Pb w R zP) (hpl : pl.length = 13) (h9 : L.getD 9 false = true) :
    J22 T0 W9 hv pid now pl tt okb (L.setIfInBounds 11 true) a (w.setCells R 0 pl) := by
  have hi : 11 < L.size := by rw [h.sz]; omega
  obtain ⟨f1, f2, f3⟩ := setCells_full hP hpl
  refine ⟨by simpa using h.sz, h.df, h.ts, f3 _ _ h.low hR, h.out, fun j e u hj hl => ?_, fun hl => ?_, fun hl => ?_, fun hl => ?_, fun hl => ?_⟩
  · rw [set_get 11 j hi, if_neg (vals_set hj (by omega))] at hl
    exact h.vals j e u hj hl
  · refine ⟨R, h21, hR, ?_⟩
    rw [set_get 11 11 hi, if_pos rfl]
    exact f1
  · rw [set_ne (i := 11) (j := 10) hi (by omega)] at hl
    obtain ⟨T, r1, r2, r3⟩ := h.o10 hl
    refine ⟨T, r1, r2, ?_⟩
    rw [set_ne (i := 11) (j := 12) hi (by omega)]
    refine r3.other (f2 T ?_)
    rintro rfl
    have := hP.symm.trans r3
    simp at this
  · rw [set_ne (i := 11) (j := 9) hi (by omega)]
    exact h9
  · rw [set_ne (i := 11) (j := 12) hi (by omega)] at hl
    rw [set_ne (i := 11) (j := 10) hi (by omega)]
    exact h.d12 hl

theorem J22.st12 (h : J22 T0 W9 hv pid now pl tt okb L a w) (T : Nat) (h22 : a.tmps.getD 22 undef = .pointer (some ⟨T, 0, none⟩)) (hR : W9.heap.size ≤ T) (hP : Tb w T 0) (h10 : L.getD 10 false = true) :
    J22 T0 W9 hv pid now pl tt okb (L.setIfInBounds 12 true) a (w.setCells T 0 [.int .u64 0, .int .i64 tt, .pointer none]) := by
  have hi : 12 < L.size := by rw [h.sz]; omega
  obtain ⟨f1, f2, f3⟩ := setCells_full (vs := [.int .u64 0, .int .i64 0, .pointer none]) (us := [.int .u64 0, .int .i64 tt, .pointer none]) hP rfl
  refine ⟨by simpa using h.sz, h.df, h.ts, f3 _ _ h.low hR, h.out, fun j e u hj hl => ?_, fun hl => ?_, fun hl => ?_, fun hl => ?_, fun hl => ?_⟩
  · rw [set_get 12 j hi, if_neg (vals_set hj (by omega))] at hl
    exact h.vals j e u hj hl
  · rw [set_ne (i := 12) (j := 9) hi (by omega)] at hl
    obtain ⟨R, r1, r2, r3⟩ := h.o9 hl
    refine ⟨R, r1, r2, ?_⟩
    rw [set_ne (i := 12) (j := 11) hi (by omega)]
    refine (f2 R ?_).trans r3
    rintro rfl
    have := hP.symm.trans r3
    simp at this
  · refine ⟨T, h22, hR, ?_⟩
    rw [set_get 12 12 hi, if_pos rfl]
    exact f1
  · rw [set_ne (i := 12) (j := 11) hi (by omega)] at hl
    rw [set_ne (i := 12) (j := 9) hi (by omega)]
    exact h.d11 hl
  · rw [set_ne (i := 12) (j := 10) hi (by omega)]
    exact h10

set_option maxRecDepth 100000 in
theorem step_b (I : In22 T0 W9 Hb hv pid now pl tt okb) (h : J22 T0 W9 hv pid now pl tt okb L a w) (i : Nat) (hi : i ∈ Region.ready .any ops22 L) (hs : i = 9 ∨ i = 10 ∨ i = 11 ∨ i = 12) :
    wpOp Yba.prog ops22 Q i (fun a' w' => J22 T0 W9 hv pid now pl tt okb (L.setIfInBounds i true) a' w') a w := by
  have ev : ∀ t, a.eval (.tmp t) = a.tmps.getD t undef := fun t => rfl
  have hn := (not_listed h hi).1
  rcases hs with rfl | rfl | rfl | rfl
  · refine wpOp_do _ rfl rfl ?_
    have hz : ∀ w, (zeroValue 32).run Yba.prog w = .ok (.agg zP.toArray) w := fun w => zero32 w
    refine wp_alloc 32 (.agg zP.toArray) ?_ ?_ ?_
    · rfl
    · exact hz
    exact h.al9 I.sz hn
  · refine wpOp_do _ rfl rfl ?_
    apply wp_alloc (P := Yba.prog) (t := 28) (z := tm 0) (hz := zero28)
    · rfl
    exact h.al10 I.sz hn
  · have l9 := listed_of_ready hi 9 rfl
    have l6 := listed_of_ready hi 6 rfl
    obtain ⟨R, r1, r2, r3⟩ := h.o9 l9
    rw [hn] at r3
    refine wpOp_do _ rfl rfl (wp_store_mid 32 (.tmp 21) (.tmp 138) rfl R 0 pl.toArray ?_ ?_ ?_ ?_ I.one ?_)
    · rw [ev]; exact r1
    · rw [ev]; exact h.vals 6 138 _ rfl l6
    · rw [List.size_toArray, I.pl13]; exact Pb.there r3 rfl
    · rw [List.size_toArray, I.pl13]; exact Yba.size32
    · exact h.st11 R r1 r2 r3 I.pl13 l9
  · have l10 := listed_of_ready hi 10 rfl
    have l7 := listed_of_ready hi 7 rfl
    obtain ⟨T, r1, r2, r3⟩ := h.o10 l10
    rw [hn] at r3
    refine wpOp_do _ rfl rfl (wp_store_mid 28 (.tmp 22) (.tmp 139) rfl T 0 #[.int .u64 0, .int .i64 tt, .pointer none] ?_ ?_ ?_ ?_ (by simp [Value.oneCell']) ?_)
    · rw [ev]; exact r1
    · rw [ev]; exact h.vals 7 139 _ rfl l7
    · intro j hj
      obtain ⟨c0, c1, c2, cf⟩ := Tb.cells r3
      refine ⟨?_, cf _⟩
      have hj3 : j < 3 := hj
      rcases (by omega : j = 0 ∨ j = 1 ∨ j = 2) with rfl | rfl | rfl
      · rw [c0]; rfl
      · rw [c1]; rfl
      · rw [c2]; rfl
    · exact Yba.size28
    · exact h.st12 T r1 r2 r3 l10

theorem step22 (I : In22 T0 W9 Hb hv pid now pl tt okb) (h : J22 T0 W9 hv pid now pl tt okb L a w) (i : Nat) (hi : i ∈ Region.ready .any ops22 L) :
    wpOp Yba.prog ops22 Q i (fun a' w' => J22 T0 W9 hv pid now pl tt okb (L.setIfInBounds i true) a' w') a w := by
  have hlt := (not_listed h hi).2
  by_cases hs : i = 9 ∨ i = 10 ∨ i = 11 ∨ i = 12
  · exact step_b I h i hi hs
  · exact step_a I h i hi (by omega)

theorem down22 : (List.range 14).all (fun i => ((ops22[i]?).map fun o => o.after.toList.all fun e => !Region.binds .any e || decide (e.on < i)).getD false) = true := by decide
/-- Where nothing may come up, all is listed. -/
theorem fin22 (hsz : L.size = 14) (hr : Region.ready .any ops22 L = []) (i : Nat) : i < 14 → L.getD i false = true := by
  induction i using Nat.strongRecOn with
  | ind i ih =>
    intro hi
    cases e : L.getD i false with
    | true => rfl
    | false =>
      exfalso
      have hd := List.all_eq_true.1 down22 i (by simpa using hi)
      have : i ∈ Region.ready .any ops22 L := by
        refine (ready_iff .any ops22 L i).2 ⟨hi, ?_, ?_⟩
        · have : i < L.size := by omega
          simpa [Array.getD, this] using e
        · cases ho : ops22[i]? with
          | none => rw [ho] at hd; cases hd
          | some o =>
            rw [ho] at hd
            simp only [Option.map_some, Option.getD_some, List.all_eq_true] at hd
            simp only [Option.map_some, Option.getD_some, Array.all_eq_true_iff_forall_mem]
            intro x hx
            have h1 := hd x (by simpa using hx)
            cases hb : Region.binds .any x with
            | false => rfl
            | true =>
              rw [hb] at h1
              have h2 : x.on < i := by simpa using h1
              rw [ih x.on h2 (by omega)]
              rfl
      rw [hr] at this
      simp at this
/-- The region's end. -/
structure Out22 (T0 : Array Value) (W9 : World) (hv : Array Value) (pid now : Int) (pl : List Value) (tt : Int) (okb : Bool) (a : Act) (w : World) (R T : Nat) : Prop where
  df : a.defers = []
  ts : a.tmps.size = T0.size
  low : Below W9.heap.size W9 w
  out : ∀ t, t ∉ dst22 → a.tmps.getD t undef = T0.getD t undef
  t21 : a.tmps.getD 21 undef = .pointer (some ⟨R, 0, none⟩)
  t22 : a.tmps.getD 22 undef = .pointer (some ⟨T, 0, none⟩)
  t23 : a.tmps.getD 23 undef = .bool okb
  p : Pb w R pl
  t : Tb w T tt
theorem Yba.mixed : Yba.prog.follows .mixedOrders = true := by kernel_rfl
theorem region22 (I : In22 T0 W9 Hb hv pid now pl tt okb) (hQ : ∀ a w R T, Out22 T0 W9 hv pid now pl tt okb a w R T → Q .normal a w) :
    (Code.region 22 ops22 true).wp Yba.prog Q ⟨T0, []⟩ W9 := by
  refine wp_region_any Yba.mixed (wpAny_inv (ops := ops22) (J22 T0 W9 hv pid now pl tt okb) (fun L a w h => h.sz) (fun L a w i h hi => step22 I h i hi) ?_ 14 _ _ _ ?_ ?_)
  · intro L a w h hr
    have hall := fin22 h.sz hr
    obtain ⟨R, r1, r2, r3⟩ := h.o9 (hall 9 (by omega))
    obtain ⟨T, t1, t2, t3⟩ := h.o10 (hall 10 (by omega))
    rw [hall 11 (by omega)] at r3
    rw [hall 12 (by omega)] at t3
    exact hQ a w R T ⟨h.df, h.ts, h.low, h.out, r1, t1, h.vals 13 23 _ rfl (hall 13 (by omega)), r3, t3⟩
  · have hf : ∀ i, (Array.replicate ops22.size false).getD i false = false := by
      intro i
      simp [Array.getD_eq_getD_getElem?, Array.getElem?_replicate]
      split <;> rfl
    refine ⟨rfl, rfl, rfl, (Below.refl _ _).drew, fun _ _ => rfl, fun i d v _ h => ?_, fun h => ?_, fun h => ?_, fun h => ?_, fun h => ?_⟩ <;> (rw [hf] at h; cases h)
  · exact Nat.le_refl 14
end

end Go.Proofs.Ybulkbofk
