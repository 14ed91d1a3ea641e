/-
  A new variable, and what is stored into it, in one step.
-/
import Derived.Test.YbulkbofkReg
namespace Go.Proofs.Ybulkbofk
open Go.RowKit

theorem setCells_new (w : World) (z cs : Array Value) (t : TypeId) (h : z.size = cs.size) : (w.alloc (.cells z t)).setCells w.heap.size 0 cs.toList = w.alloc (.cells cs t) := by
  rw [setCells_row w.heap.size t cs.toList 0 z _ (heap_alloc_new w _) (by simp; omega)]
  have e : (List.take 0 z.toList ++ cs.toList ++ List.drop (0 + cs.toList.length) z.toList).toArray = cs := by
    rw [Nat.zero_add, List.drop_eq_nil_of_le (by simp; omega)]
    simp
  rw [e]
  unfold World.setRow World.alloc
  congr 1
  apply Array.ext_getElem?
  intro i
  simp only [Array.getElem?_modify, Array.getElem?_push]
  by_cases hi : i = w.heap.size
  · subst hi
    simp
  · rw [if_neg (fun e => hi e.symm), if_neg hi, if_neg hi]

theorem put_eval {a : Act} {d s : Nat} {v : Value} (hne : s ≠ d) : (a.put (some d) v).eval (.tmp s) = a.eval (.tmp s) := by
  show (a.put (some d) v).tmps.getD s undef = a.tmps.getD s undef
  simp only [Act.put]
  simp [Array.getD_eq_getD_getElem?, Ne.symm hne]
theorem put_here {a : Act} {d : Nat} {v : Value} (hd : d < a.tmps.size) : (a.put (some d) v).eval (.tmp d) = v := by
  show (a.put (some d) v).tmps.getD d undef = v
  simp only [Act.put]
  simp [hd]

/-- ALLOC AND STORE. -/
theorem wpList_new {P : Program} {ops : Array Oper} {rest : List Oper} {o1 o2 : Oper} {a : Act} {w : World} {Q : Exit → Act → World → Prop} (t : TypeId) (d s : Nat) (z : Value) (cells : Array Value)
    (hg1 : o1.guard = none) (hg2 : o2.guard = none) (h1 : o1.op = .alloc t) (h1d : o1.dst = some d) (h2 : o2.op = .store t (.tmp d) (.tmp s)) (h2d : o2.dst = none)
    (hne : s ≠ d) (hd : d < a.tmps.size) (hz : ∀ w, (zeroValue t).run P w = .ok z w) (hzc : z.cells.size = cells.size) (hi : (P.info? t).map (·.size) = some cells.size) (hone : cells.all (·.oneCell') = true)
    (hs : a.eval (.tmp s) = .agg cells)
    (h : wpList P ops Q rest (a.put (some d) (.pointer (some ⟨w.heap.size, 0, none⟩))) (w.alloc (.cells cells t))) : wpList P ops Q (o1 :: o2 :: rest) a w := by
  refine wpList_plain hg1 fun K hK => wp_alloc t z h1 hz (hK _ _ ?_)
  rw [h1d]
  refine wpList_store_mid hg2 t (.tmp d) (.tmp s) h2 w.heap.size 0 cells (put_here hd) ((put_eval hne).trans hs) ?_ hi hone ?_
  · intro j hj
    have hb : (w.alloc (.cells z.cells t)).heap[w.heap.size]? = some (.cells z.cells t (0, 0)) := heap_alloc_new w _
    refine ⟨?_, by simp only [World.frozen?, hb]; simp⟩
    simp only [World.cell?, hb]
    rw [Nat.zero_add, Array.getElem?_eq_getElem (by omega)]
    rfl
  · rw [h2d, setCells_new w _ _ t hzc]
    exact h

theorem zero52 (w : World) : (zeroValue 52).run Yba.prog w = .ok (.agg (hostA (.slice none 0 0) (.slice none 0 0) 0 0 |>.setIfInBounds 3 (.int .i64 0) |>.setIfInBounds 11 (.int .i64 0))) w := by kernel_rfl

theorem First.exists (q : List Int) (pid : Int) : ∃ r, First q pid r := by
  induction q with
  | nil => exact ⟨none, fun i hi => by simp at hi⟩
  | cons x q ih =>
    by_cases h : x = pid
    · exact ⟨some 0, by simp, by simpa using h, fun i hi => by omega⟩
    · obtain ⟨r, hr⟩ := ih
      cases r with
      | none =>
        refine ⟨none, fun i hi => ?_⟩
        cases i with
        | zero => simpa using h
        | succ i => simpa using hr i (by simpa using hi)
      | some j =>
        refine ⟨some (j + 1), by simpa using hr.1, by simpa using hr.2.1, fun i hi => ?_⟩
        cases i with
        | zero => simpa using h
        | succ i => simpa using hr.2.2 i (by omega)

theorem tmps_put (x : Array Value) (d : Nat) (v : Value) (hd : d < x.size) (t : Nat) : (x.setIfInBounds d v).getD t undef = if t = d then v else x.getD t undef := by
  by_cases e : t = d
  · subst e
    simp [hd]
  · simp only [if_neg e]
    simp [Array.getD_eq_getD_getElem?, Ne.symm e]

theorem tmps_ext {x y : Array Value} (hs : x.size = y.size) (h : ∀ t, x.getD t undef = y.getD t undef) : x = y := by
  apply Array.ext hs
  intro i h1 h2
  have := h i
  simpa [Array.getD, h1, h2] using this

theorem Out22.frame {T0 : Array Value} {W9 : World} {hv : Array Value} {pid now : Int} {pl : List Value} {tt : Int} {okb : Bool} {a : Act} {w : World} {R T : Nat} (h : Out22 T0 W9 hv pid now pl tt okb a w R T) (hT : 141 ≤ T0.size) :
    ∃ u132 u133 u134 u135 u136 u137 u138 u139 u140, a = ⟨(((((((((((T0.setIfInBounds 21 (.pointer (some ⟨R, 0, none⟩))).setIfInBounds 22 (.pointer (some ⟨T, 0, none⟩))).setIfInBounds 23 (.bool okb)).setIfInBounds 132 u132).setIfInBounds 133 u133).setIfInBounds 134 u134).setIfInBounds 135 u135).setIfInBounds 136 u136).setIfInBounds 137 u137).setIfInBounds 138 u138).setIfInBounds 139 u139).setIfInBounds 140 u140, []⟩ := by
  refine ⟨a.tmps.getD 132 undef, a.tmps.getD 133 undef, a.tmps.getD 134 undef, a.tmps.getD 135 undef, a.tmps.getD 136 undef, a.tmps.getD 137 undef, a.tmps.getD 138 undef, a.tmps.getD 139 undef, a.tmps.getD 140 undef, ?_⟩
  have hd := h.df
  obtain ⟨ts, df⟩ := a
  simp only at hd
  subst hd
  rw [Act.mk.injEq]
  refine ⟨?_, rfl⟩
  have hts := h.ts
  simp only at hts
  refine tmps_ext (by simp only [Array.size_setIfInBounds]; exact hts) fun t => ?_
  iterate 12 rw [tmps_put _ _ _ (by (try simp only [Array.size_setIfInBounds]); omega)]
  by_cases e : t ∈ dst22
  · simp only [dst22, List.mem_cons, List.not_mem_nil, or_false] at e
    rcases e with rfl | rfl | rfl | rfl | rfl | rfl | rfl | rfl | rfl | rfl | rfl | rfl
    iterate 9 rfl
    · exact h.t21
    · exact h.t22
    · exact h.t23
  · iterate 12 rw [if_neg (by rintro rfl; exact e (by simp [dst22]))]
    exact h.out t e

theorem Row.range {w : World} {S sz n : Nat} {t : TypeId} {f : Nat → List Value} (h : Row w S t sz n f) (i : Nat) (hi : i < n) : w.rangeAt S (i * sz) (f i) := by
  intro j v hj
  obtain ⟨cur, h1, h2, h3⟩ := h
  have hlt : j < sz := by
    rw [← (h3 i hi).1]
    exact (List.getElem?_eq_some_iff.1 hj).1
  rw [Row.cell ⟨cur, h1, h2, h3⟩ i j hi hlt]
  exact hj

section
variable {ops : Array Oper} {rest : List Oper} {o1 o2 op : Oper} {a : Act} {w : World} {Q : Exit → Act → World → Prop}
/-- A process is loaded. -/
theorem load32 (t b o : Nat) (cs : List Value) (hc : w.rangeAt b o cs) (hl : cs.length = 13) (hgd : op.guard = none) (ho : op.op = .load 32 (.tmp t)) (hx : a.eval (.tmp t) = .pointer (some ⟨b, o, none⟩))
    (h : wpList Yba.prog ops Q rest (a.put op.dst (.agg cs.toArray)) w) : wpList Yba.prog ops Q (op :: rest) a w :=
  wpList_load_mid hgd 32 (.tmp t) ho b o hx cs _ hc Yba.underlying32 rfl (by rw [hl]; exact Yba.size32) h
/-- A process's variable is made and filled. -/
theorem new32 (d s : Nat) (cs : List Value) (hl : cs.length = 13) (hone : cs.toArray.all (·.oneCell') = true) (hne : s ≠ d)
    (hg1 : o1.guard = none) (hg2 : o2.guard = none) (h1 : o1.op = .alloc 32) (h1d : o1.dst = some d) (h2 : o2.op = .store 32 (.tmp d) (.tmp s)) (h2d : o2.dst = none) (hd : d < a.tmps.size) (hs : a.eval (.tmp s) = .agg cs.toArray)
    (h : wpList Yba.prog ops Q rest (a.put (some d) (.pointer (some ⟨w.heap.size, 0, none⟩))) (w.alloc (.cells cs.toArray 32))) : wpList Yba.prog ops Q (o1 :: o2 :: rest) a w :=
  wpList_new 32 d s (.agg zP.toArray) cs.toArray hg1 hg2 h1 h1d h2 h2d hne hd zero32 (by show zP.toArray.size = _; simp [hl, zP]) (by rw [List.size_toArray, hl]; exact Yba.size32) hone hs h
/-- The host. -/
theorem new52 (d s : Nat) (cells : Array Value) (hl : cells.size = 22) (hone : cells.all (·.oneCell') = true) (hne : s ≠ d)
    (hg1 : o1.guard = none) (hg2 : o2.guard = none) (h1 : o1.op = .alloc 52) (h1d : o1.dst = some d) (h2 : o2.op = .store 52 (.tmp d) (.tmp s)) (h2d : o2.dst = none) (hd : d < a.tmps.size) (hs : a.eval (.tmp s) = .agg cells)
    (h : wpList Yba.prog ops Q rest (a.put (some d) (.pointer (some ⟨w.heap.size, 0, none⟩))) (w.alloc (.cells cells 52))) : wpList Yba.prog ops Q (o1 :: o2 :: rest) a w :=
  wpList_new 52 d s _ cells hg1 hg2 h1 h1d h2 h2d hne hd zero52 (by rw [hl]; rfl) (by rw [hl]; exact Yba.size52) hone hs h
end

theorem sliceNe (w : World) : (binOp .neq 24 (.slice none 0 0) (.slice none 0 0)).run Yba.prog w = .ok (.bool false) w := by kernel_rfl

end Go.Proofs.Ybulkbofk
