/-
  The contract of Push, where nothing has left the queue or nothing is in it.
-/
import Derived.Test.YbulkbobqFmtPop
import Derived.Deep.AppendLies
import Derived.Deep.RegionLaw
namespace Go.Proofs.YbulkbobqFmt
open Go.RowKit

/-- An append at a step of a region that draws its order. -/
theorem step_append_sure {P : Program} (w : World) {ops : Array Oper} {o : Oper} {a : Act} {K : Act → World → Prop} {Q : Exit → Act → World → Prop} {E : Prop} (hgd : o.guard = none) (s x : Operand) (t : TypeId)
    (ho : o.op = .call { callee := .builtin .append, args := #[s, x], argTypes := #[t, t] })
    (base : Nat) (e : TypeId) (i : TypeInfo) (z : Value) (size bytes : Nat) (ht : P.underlying t = some (.slice e)) (hi : P.info? e = some i) (hz : i.zero = some z)
    (hsize : i.size = size) (hby : i.bytes = bytes) (hzs : z.cells.size = size)
    (v : Value) (n : Nat) (xs : List Value) (hs : a.eval s = v) (hown : w.ownsRow base e size v n xs) (sv : Value) (m : Nat) (news : List Value) (hx : a.eval x = sv) (hsrc : SrcAt w size sv m news)
    (hbytes : (n + m) * bytes ≤ 140737488355328) (hlen : n + m ≤ 140737488355328) (hbase : base ≤ w.heap.size)
    (h : ∀ v' w', w'.ownsRow base e size v' (n + m) (xs ++ news) → Moved e xs news z.cells w w' v v' → K (a.put o.dst v') w') :
    if Region.wanted o (yielded ops a.tmps) = true then Oper.wp P o a w K Q else E := by
  have hw : Region.wanted o (yielded ops a.tmps) = true := by simp [Region.wanted, hgd]
  rw [if_pos hw]
  exact wp_append_sure w s x t ho base e i z size bytes ht hi hz hsize hby hzs v n xs hs hown sv m news hx hsrc hbytes hlen hbase h

theorem Ybaf.info32 : (Ybaf.prog.info? 32).map (fun i => (i.zero, i.size, i.bytes)) = some (some zMsg, 8, 112) := by kernel_rfl

/-- A queue from which nothing has left, as an owned row. -/
theorem Qu.owns {base : Nat} {w : World} {v : Value} {ms : List Msg} (h : Qu base w v 0 ms) : ∃ xs, w.ownsRow base 32 8 v ms.length xs ∧ ∀ i (hi : i < ms.length) j, j < 8 → xs[i * 8 + j]? = (ms[i].cells)[j]? := by
  rcases h with ⟨rfl, _, rfl⟩ | ⟨b, len, c, cur, rfl, h2, h3, h4, h5, h6, h7, h8, h9⟩
  · exact ⟨[], World.ownsRow_nil _ _ _ _, fun i hi => by simp at hi⟩
  · obtain rfl : ms.length = len := by omega
    refine ⟨cur.toList.take (ms.length * 8), ⟨by simp; omega, .inr ⟨b, c, cur, rfl, h2, h3, h5, h6, h7, rfl⟩⟩, fun i hi j hj => ?_⟩
    rw [List.getElem?_take_of_lt (by omega), Array.getElem?_toList]
    simpa using h9 i hi j hj
theorem Qu.ofOwns {base : Nat} {w : World} {v : Value} {ms : List Msg} {xs : List Value} (h : w.ownsRow base 32 8 v ms.length xs) (hc : ∀ i (hi : i < ms.length) j, j < 8 → xs[i * 8 + j]? = (ms[i].cells)[j]?) : Qu base w v 0 ms := by
  rcases h.2 with ⟨rfl, h0⟩ | ⟨g, cap, cur, rfl, hb, hg, hnc, hcm, hcs, htake⟩
  · exact .inl ⟨rfl, rfl, List.eq_nil_of_length_eq_zero h0⟩
  · refine .inr ⟨g, ms.length, cap, cur, rfl, hb, hg, by omega, hnc, hcm, hcs, by omega, fun i hi j hj => ?_⟩
    rw [← hc i hi j hj, ← htake, List.getElem?_take_of_lt (by omega), Array.getElem?_toList, Nat.zero_add]
theorem Qu.snoc {ms : List Msg} {xs : List Value} (m : Msg) (hl : xs.length = ms.length * 8) (hc : ∀ i (hi : i < ms.length) j, j < 8 → xs[i * 8 + j]? = (ms[i].cells)[j]?) :
    ∀ i (hi : i < (ms ++ [m]).length) j, j < 8 → (xs ++ m.cells)[i * 8 + j]? = ((ms ++ [m])[i].cells)[j]? := by
  intro i hi j hj
  by_cases h : i < ms.length
  · rw [List.getElem?_append_left (by omega), hc i h j hj, List.getElem_append_left h]
  · obtain rfl : i = ms.length := by simp at hi; omega
    rw [List.getElem?_append_right (by omega), hl]
    simp

/-- What Push says. -/
def PushPost (base H o : Nat) (v : Value) (ms : List Msg) (m : Msg) (w : World) (e : Ending) (w' : World) : Prop :=
  e = .returned (.tuple #[]) ∧ ∃ g c, Qu base w' (.slice (some ⟨g, 0, none⟩) (ms.length + 1) c) 0 (ms ++ [m]) ∧ (v.ownBlock = some g ∨ w.heap.size ≤ g) ∧ Fr base (H :: v.ownBlock.toList) [] w w' ∧ (LogOK base w → LogOK base w') ∧
    w'.heap[H]? = ((w.setCell ⟨H, o, none⟩ (.slice (some ⟨g, 0, none⟩) (ms.length + 1) c)).setCell ⟨H, o + 1, none⟩ (.int .i64 0)).heap[H]?

/-- Ahead of Push's append: nothing has left. -/
def PushMid (base H o R : Nat) (v : Value) (ms : List Msg) (m : Msg) (w wd : World) : Prop :=
  ∃ (v2 : Value) (cH2 : Array Value), v2.ownBlock = v.ownBlock ∧ wd.heap[H]? = some (.cells cH2 61 (0, 0)) ∧ wd.heap[H]? = ((w.setCell ⟨H, o, none⟩ v2).setCell ⟨H, o + 1, none⟩ (.int .i64 0)).heap[H]? ∧ wd.cell? ⟨H, o, none⟩ = some v2 ∧
    wd.heap[R]? = some (.cells m.arr 32 (0, 0)) ∧ Qu base wd v2 0 ms ∧ Fr base (H :: v.ownBlock.toList) [] w wd ∧ (LogOK base w → LogOK base wd)

/-- What the append and the store leave. -/
theorem push_end {base H o : Nat} {v v2 : Value} {ms : List Msg} {m : Msg} {w wc X w7 : World} {cH2 : Array Value} {xs : List Value} {g cap : Nat} (hbH : base ≤ H) (hvv : v2.ownBlock = v.ownBlock) (hne : v.ownBlock ≠ some H)
    (e1 : wc.heap[H]? = some (.cells cH2 61 (0, 0))) (e2 : wc.heap[H]? = ((w.setCell ⟨H, o, none⟩ v2).setCell ⟨H, o + 1, none⟩ (.int .i64 0)).heap[H]?) (cH : Array Value) (hH61 : w.heap[H]? = some (.cells cH 61 (0, 0)))
    (e6 : Fr base (H :: v.ownBlock.toList) [] w wc) (e7 : LogOK base w → LogOK base wc) (hown : wc.ownsRow base 32 8 v2 ms.length xs) (hxs : ∀ i (hi : i < ms.length) j, j < 8 → xs[i * 8 + j]? = (ms[i].cells)[j]?)
    (hXF : Fr base [] [] wc X) (hXL : LogOK base wc → LogOK base X) (g1 : w7.ownsRow base 32 8 (.slice (some ⟨g, 0, none⟩) (ms.length + 1) cap) (ms.length + 1) (xs ++ m.cells)) (g2 : Moved 32 xs m.cells zMsg.cells X w7 v2 (.slice (some ⟨g, 0, none⟩) (ms.length + 1) cap)) :
    w7.heap[H]? = wc.heap[H]? ∧ Fr base v.ownBlock.toList [] wc w7 ∧ PushPost base H o v ms m w (.returned (.tuple #[])) (w7.setCell ⟨H, o, none⟩ (.slice (some ⟨g, 0, none⟩) (ms.length + 1) cap)) := by
  have hbg : ∀ g, v2.ownBlock = some g → base ≤ g := fun g hg => (hown.lt g hg).1
  have f7 : Fr base v.ownBlock.toList [] wc w7 := (hXF.wider (by simp) (by simp)).moved g2 hbg (.inr fun g hg => by rw [hvv] at hg; simp [hg])
  have hHn : H ∉ v.ownBlock.toList := by simpa using hne
  have h7H : w7.heap[H]? = some (.cells cH2 61 (0, 0)) := f7.same e1 hHn (by simp)
  have hgH : g ≠ H := by
    rintro rfl
    rcases g1.2 with ⟨h, _⟩ | ⟨g', _, cur, h, _, hg, _⟩
    · simp at h
    · simp only [Value.slice.injEq, Option.some.injEq, Addr.mk.injEq, and_true, true_and] at h
      obtain ⟨rfl, _⟩ := h
      rw [h7H] at hg
      simp at hg
  refine ⟨h7H.trans e1.symm, f7, rfl, g, cap, ?_, ?_, ?_, ?_, ?_⟩
  · refine (Qu.ofOwns (by simpa using g1) (Qu.snoc m hown.1 hxs)).same fun k hk => Below.heap_setCell _ _ _ _ ?_
    simp [Value.ownBlock] at hk
    rintro rfl
    exact hgH hk
  · rcases g2 with ⟨h, _⟩ | ⟨k, n, n', cp, _, _, h1, h2, _⟩ | ⟨n', cp, _, h1, _⟩
    · left
      rw [← hvv, ← h]
      rfl
    · left
      rw [← hvv, h1]
      simp only [Value.slice.injEq, Option.some.injEq, Addr.mk.injEq, and_true] at h2
      simp [Value.ownBlock, h2.1]
    · right
      simp only [Value.slice.injEq, Option.some.injEq, Addr.mk.injEq, and_true] at h1
      have := e6.size
      have := hXF.size
      omega
  · exact (e6.trans (f7.wider (fun k hk => List.mem_cons_of_mem _ hk) (by simp))).setCell h7H _ hbH (.inl (by simp))
  · intro h
    exact ((hXL (e7 h)).moved g2 (fun e => by simp at e) (fun e => by simp at e) (fun e => by simp at e) (fun e => by simp at e)).setCell h7H _ (fun e => by simp at e)
  · have q1 : (w.setCell ⟨H, o, none⟩ v2).heap[H]? = some (.cells (cH.setIfInBounds o v2) 61 (0, 0)) := by rw [setCell_eq_setRow w H o cH 61 (0, 0) v2 hH61, setRow_heap w H _ _ _ _ hH61]
    have q2 : (w.setCell ⟨H, o, none⟩ (.slice (some ⟨g, 0, none⟩) (ms.length + 1) cap)).heap[H]? = some (.cells (cH.setIfInBounds o (.slice (some ⟨g, 0, none⟩) (ms.length + 1) cap)) 61 (0, 0)) := by rw [setCell_eq_setRow w H o cH 61 (0, 0) _ hH61, setRow_heap w H _ _ _ _ hH61]
    rw [setCell_eq_setRow _ H (o + 1) _ 61 (0, 0) _ q1, setRow_heap _ H _ _ _ _ q1, e1] at e2
    simp only [Option.some.injEq, Obj.cells.injEq, and_true] at e2
    rw [setCell_eq_setRow _ H (o + 1) _ 61 (0, 0) _ q2, setRow_heap _ H _ _ _ _ q2, setCell_eq_setRow w7 H o cH2 61 (0, 0) _ h7H, setRow_heap w7 H _ _ _ _ h7H, e2]
    congr 2
    apply Array.ext
    · simp
    · intro i h1 h2
      grind

theorem Qu.block' {base : Nat} {w : World} {v : Value} {hd : Nat} {ms : List Msg} (h : Qu base w v hd ms) (g : Nat) (hg : v.ownBlock = some g) : base ≤ g ∧ ∃ cur : Array Value, w.heap[g]? = some (.cells cur 32 (0, 0)) := by
  rcases h with ⟨rfl, _⟩ | ⟨b, len, c, cur, rfl, h2, h3, _⟩
  · simp [Value.ownBlock] at hg
  · simp [Value.ownBlock] at hg
    subst hg
    exact ⟨h2, cur, h3⟩

/-- The shift of an empty queue: what it leaves. -/
theorem push_shift {base H o hd b c : Nat} {m : Msg} {w V W : World} {cur X cH : Array Value} {k : Nat} (hbH : base ≤ H) (hbb : base ≤ b) (hbH2 : H ≠ b) (hV : V = w.alloc (.cells m.arr 32)) (hHl : H < w.heap.size) (hbl : b < w.heap.size)
    (hH61 : w.heap[H]? = some (.cells cH 61 (0, 0))) (hb32 : w.heap[b]? = some (.cells cur 32 (0, 0))) (hX : X.size = cur.size) (hc : c ≤ maxLen) (hcs : cur.size = c * 8)
    (ho : o + 1 < cH.size) (hW : W = (((V.drewN k).setRow b X).setCell ⟨H, o, none⟩ (.slice (some ⟨b, 0, none⟩) 0 c)).setCell ⟨H, o + 1, none⟩ (.int .i64 0)) :
    PushMid base H o w.heap.size (.slice (some ⟨b, 0, none⟩) hd c) [] m w W := by
  have v1 : V.heap[H]? = some (.cells cH 61 (0, 0)) := by rw [hV]; exact (Below.heap_alloc _ _ _ hHl).trans hH61
  have v2 : V.heap[b]? = some (.cells cur 32 (0, 0)) := by rw [hV]; exact (Below.heap_alloc _ _ _ hbl).trans hb32
  have v3 : V.heap[w.heap.size]? = some (.cells m.arr 32 (0, 0)) := by rw [hV]; exact heap_alloc_new w _
  have f0 : Fr base [H, b] [] w V := by rw [hV]; exact (Fr.refl _ _ _ _).alloc _
  have l0 : LogOK base w → LogOK base V := fun h => by rw [hV]; exact h.alloc _ _ (fun e => by simp at e)
  obtain ⟨V1, hV1⟩ : ∃ V1, V1 = (V.drewN k).setRow b X := ⟨_, rfl⟩
  have f1 : Fr base [H, b] [] w V1 := by rw [hV1]; exact (f0.drewN k).setRow v2 hX hbb (.inl (by simp))
  have l1 : LogOK base w → LogOK base V1 := fun h => by rw [hV1]; exact ((l0 h).same rfl : LogOK base (V.drewN k)).setRow (w := V.drewN k) v2 (fun e => by simp at e)
  have a1 : V1.heap[H]? = some (.cells cH 61 (0, 0)) := by rw [hV1]; exact (setRow_other _ b H X hbH2).trans v1
  have a2 : V1.heap[b]? = some (.cells X 32 (0, 0)) := by rw [hV1]; exact setRow_heap _ b _ _ _ _ v2
  have a3 : V1.heap[w.heap.size]? = some (.cells m.arr 32 (0, 0)) := by rw [hV1]; exact (setRow_other _ b _ X (by omega)).trans v3
  rw [← hV1] at hW
  clear hV1 hV
  obtain ⟨V2, hV2⟩ : ∃ V2, V2 = V1.setCell ⟨H, o, none⟩ (.slice (some ⟨b, 0, none⟩) 0 c) := ⟨_, rfl⟩
  have b1 : V2.heap[H]? = some (.cells (cH.setIfInBounds o (.slice (some ⟨b, 0, none⟩) 0 c)) 61 (0, 0)) := by rw [hV2, setCell_eq_setRow V1 H o cH 61 (0, 0) _ a1, setRow_heap V1 H _ _ _ _ a1]
  have f2 : Fr base [H, b] [] w V2 := by rw [hV2]; exact f1.setCell a1 _ hbH (.inl (by simp))
  have l2 : LogOK base w → LogOK base V2 := fun h => by rw [hV2]; exact (l1 h).setCell a1 _ (fun e => by simp at e)
  have o2 : ∀ g, g ≠ H → V2.heap[g]? = V1.heap[g]? := fun g hg => by rw [hV2]; exact Below.heap_setCell _ _ _ _ hg
  rw [← hV2] at hW
  have c1 : W.heap[H]? = some (.cells ((cH.setIfInBounds o (.slice (some ⟨b, 0, none⟩) 0 c)).setIfInBounds (o + 1) (.int .i64 0)) 61 (0, 0)) := by rw [hW, setCell_eq_setRow V2 H (o + 1) _ 61 (0, 0) _ b1, setRow_heap V2 H _ _ _ _ b1]
  have o3 : ∀ g, g ≠ H → W.heap[g]? = V1.heap[g]? := fun g hg => by rw [hW, Below.heap_setCell _ _ _ _ hg]; exact o2 g hg
  refine ⟨.slice (some ⟨b, 0, none⟩) 0 c, _, rfl, c1, ?_, ?_, (o3 _ (by omega)).trans a3, .inr ⟨b, 0, c, X, rfl, hbb, (o3 b (Ne.symm hbH2)).trans a2, Nat.le_refl _, Nat.zero_le _, hc, hX.trans hcs, rfl, fun i hi => by simp at hi⟩, ?_, fun h => by rw [hW]; exact (l2 h).setCell b1 _ (fun e => by simp at e)⟩
  · have q1 : (w.setCell ⟨H, o, none⟩ (.slice (some ⟨b, 0, none⟩) 0 c)).heap[H]? = some (.cells (cH.setIfInBounds o (.slice (some ⟨b, 0, none⟩) 0 c)) 61 (0, 0)) := by rw [setCell_eq_setRow w H o cH 61 (0, 0) _ hH61, setRow_heap w H _ _ _ _ hH61]
    rw [c1, setCell_eq_setRow _ H (o + 1) _ 61 (0, 0) _ q1, setRow_heap _ H _ _ _ _ q1]
  · simp only [World.cell?, c1]
    rw [Array.getElem?_setIfInBounds_ne (by omega), Array.getElem?_setIfInBounds_self_of_lt (by omega)]
    rfl
  · rw [hW]
    exact (f2.setCell b1 _ hbH (.inl (by simp))).wider (by simp [Value.ownBlock]) (by simp)

/-- A copy of nothing. -/
theorem copy_none (X : World) (ty : TypeId) (a a2 : Addr) (n c c2 : Nat) : (Builtin.copy_ #[59, 59] ty #[.slice (some a) n c, .slice (some a2) 0 c2]).run Ybaf.prog X = .ok (.int .i64 0) X := by
  obtain ⟨i0, hi, hz, hz1, hz2⟩ := info_split Ybaf.info32
  simp [Builtin.copy_, run_underlying Ybaf.underlying59, Builtin.lenOf, Builtin.firstCells, sizeOf, typeInfo, hi, storeCells, loadCells, loadCellsFrom, goInt, Nat.min_def]

set_option maxHeartbeats 1000000 in
theorem push_any (base H o : Nat) (v : Value) (hd : Nat) (ms : List Msg) (m : Msg) (w : World) (h0 : w.cell? ⟨H, o, none⟩ = some v) (h1 : w.cell? ⟨H, o + 1, none⟩ = some (.int .i64 hd)) (hq : Qu base w v hd ms) (hcase : hd = 0 ∨ (0 < hd ∧ ms = [])) (hb : hd + ms.length ≤ 1000000)
    (hne : v.ownBlock ≠ some H) (hbH0 : base ≤ H) (cH : Array Value) (hH61 : w.heap[H]? = some (.cells cH 61 (0, 0))) :
    Calls Ybaf.prog 24 #[.pointer (some ⟨H, o, none⟩), .agg m.arr] w (PushPost base H o v ms m w) := by
  obtain ⟨i0, hi, hz, hz1, hz2⟩ := info_split Ybaf.info32
  have hHl : H < w.heap.size := World.block_lt_of_cell? _ _ h1
  have hvb : ∀ g, v.ownBlock = some g → g < w.heap.size := by
    intro g hg
    obtain ⟨_, cu, hc⟩ := Qu.block' hq g hg
    exact (Array.getElem?_eq_some_iff.1 hc).1
  unfold Msg.arr msgA
  go_enter Ybaf.func24, Ybaf.ntmps24
  go_upto_region 1 with fail
  obtain ⟨V, hV⟩ : ∃ V, V = w.alloc (.cells #[.int .i64 m.p, .int .u64 m.q, .int .u64 m.t, .slice m.e m.ml m.ml, .int .u64 0, .slice none 0 0, .slice none 0 0, .bool false] 32) := ⟨_, rfl⟩
  rw [← hV]
  have hold : ∀ g, g < w.heap.size → V.heap[g]? = w.heap[g]? := fun g hg => by rw [hV]; exact Below.heap_alloc _ _ _ hg
  have k0 : V.cell? ⟨H, o, none⟩ = some v := (World.cell?_of_block (a := ⟨H, o, none⟩) (hold H hHl)).trans h0
  have k1 : V.cell? ⟨H, o + 1, none⟩ = some (.int .i64 hd) := (World.cell?_of_block (a := ⟨H, o + 1, none⟩) (hold H hHl)).trans h1
  have kH : V.heap[H]? = some (.cells cH 61 (0, 0)) := (hold H hHl).trans hH61
  obtain ⟨R, hR⟩ : ∃ R, w.heap.size = R := ⟨_, rfl⟩
  rw [hR]
  have HR : Hid (w.heap.size = R) := hR
  go_cut [22] from 5 to 22 (fun bv wd => ∃ k, wd = V.drewN k ∧ ((hd = 0 ∧ bv = .bool false) ∨ (0 < hd ∧ ms = [] ∧ bv = .bool true)))
  case first =>
    obtain ⟨av, cv, hv⟩ := hq.form
    rw [hv] at k0
    rcases hcase with rfl | ⟨hpos, rfl⟩
    · clear hold h0 h1 kH hq hV hR
      go_quiet (fail)
      go_wp2
      go_meet
      exact ⟨_, rfl, .inl ⟨by trivial, rfl⟩⟩
    · have hd1 : decide ((0 : Int) < (hd : Int)) = true := by simp; omega
      have hd2 : decide ((hd : Int) ≤ 2 * (hd : Int)) = true := by simp; omega
      simp only [List.length_nil, Nat.add_zero] at *
      clear hold h0 h1 kH hq hV hR
      go_quiet (fail)
      go_wp2
      go_meet
      exact ⟨_, rfl, .inr ⟨hpos, by trivial, rfl⟩⟩
  case rest =>
  obtain ⟨kk, rfl, hbv⟩ := hcut
  go_upto_if 22 with fail
  go_cut [] from 23 to 54 (fun wd => PushMid base H o R v ms m w wd)
  case first =>
    rcases hbv with ⟨rfl, rfl⟩ | ⟨hpos, rfl, rfl⟩
    · have hself : (w.setCell ⟨H, o, none⟩ v).setCell ⟨H, o + 1, none⟩ (.int .i64 0) = w := by
        rw [World.cell?, hH61] at h0 h1
        simp at h0 h1
        rw [setCell_eq_setRow w H o cH 61 (0, 0) v hH61]
        obtain ⟨ha, hb⟩ := Array.getElem?_eq_some_iff.1 h0
        obtain ⟨ha1, hb1⟩ := Array.getElem?_eq_some_iff.1 h1
        rw [show cH.setIfInBounds o v = cH from by rw [← hb]; simp [Array.setIfInBounds, ha], setRow_self w H cH 61 (0, 0) hH61, setCell_eq_setRow w H (o + 1) cH 61 (0, 0) _ hH61]
        rw [show cH.setIfInBounds (o + 1) (.int .i64 0) = cH from by rw [← hb1]; simp [Array.setIfInBounds, ha1], setRow_self w H cH 61 (0, 0) hH61]
      have HM : Hid (∀ k, PushMid base H o R v ms m w (V.drewN k)) := by
        intro k
        refine ⟨v, cH, rfl, kH, ?_, k0, ?_, hq.same fun g hg => hold g (hvb g hg), ?_, ?_⟩
        · rw [hself]; exact hold H hHl
        · show V.heap[R]? = _
          rw [← hR, hV]; exact heap_alloc_new w _
        · rw [hV]; exact ((Fr.refl _ _ _ _).alloc _).drewN _
        · intro h
          rw [hV]
          exact LogOK.same (h.alloc _ _ (fun e => by simp at e)) rfl
      obtain ⟨av, cv, rfl⟩ := hq.form
      clear hold h0 h1 kH hself hq hV hR
      go_wp2
      go_meet
      exact HM.out _
    · rcases hq with ⟨_, rfl, _⟩ | ⟨b, len, c, cur, rfl, h2, h3, h4, h5, h6, h7, h8, h9⟩
      · omega
      obtain rfl : len = hd := by simp at h8; omega
      have hbl : b < w.heap.size := (Array.getElem?_eq_some_iff.1 h3).1
      have hbH : H ≠ b := fun e => hne (by rw [e]; rfl)
      have ho1 : o + 1 < cH.size := by
        have := h1
        simp only [World.cell?, hH61] at this
        simp at this
        exact (Array.getElem?_eq_some_iff.1 this).1
      obtain ⟨X, hX⟩ : ∃ X, X = (cur.toList.take 0 ++ (Builtin.zeroCells zMsg.cells len).toList ++ cur.toList.drop (0 + len * zMsg.cells.size)).toArray := ⟨_, rfl⟩
      have hfit : 0 + len * zMsg.cells.size ≤ cur.size := by simp [zMsg, Value.cells]; omega
      have hone : ∀ u ∈ zMsg.cells.toList, u.oneCell' = true := by simp [zMsg, Value.cells]; decide
      have hXl : X.size = cur.size := by
        rw [hX]
        simp only [List.size_toArray, List.length_append, List.length_take, List.length_drop, Array.length_toList, size_zeroCells]
        simp [zMsg, Value.cells]
        omega
      have hVb : V.heap[b]? = some (.cells cur 32 (0, 0)) := (hold b hbl).trans h3
      have hcl : ∀ ty k, (Builtin.clear_ #[59] ty #[.slice (some ⟨b, 0, none⟩) len c]).run Ybaf.prog (V.drewN k) = .ok (.tuple #[]) ((V.drewN k).setRow b X) :=
        fun ty k => by rw [hX]; exact run_clear_row (V.drewN k) 59 32 ty zMsg Ybaf.underlying59 Ybaf.zero32 b 0 len c cur 32 hVb hfit hone
      have HM : Hid (∀ k W, W = (((V.drewN k).setRow b X).setCell ⟨H, o, none⟩ (.slice (some ⟨b, 0, none⟩) 0 c)).setCell ⟨H, o + 1, none⟩ (.int .i64 0) → PushMid base H o R (.slice (some ⟨b, 0, none⟩) len c) [] m w W) := by
        intro k W hW
        rw [← hR]
        exact push_shift hbH0 h2 hbH hV hHl hbl hH61 h3 hXl h6 h7 ho1 hW
      have g0 : ∀ k, ((V.drewN k).setRow b X).cell? ⟨H, o, none⟩ = some (.slice (some ⟨b, 0, none⟩) len c) := fun k => (World.cell?_of_block (a := ⟨H, o, none⟩) (setRow_other (V.drewN k) b H X hbH)).trans k0
      have g1 : ∀ k, ((V.drewN k).setRow b X).cell? ⟨H, o + 1, none⟩ = some (.int .i64 len) := fun k => (World.cell?_of_block (a := ⟨H, o + 1, none⟩) (setRow_other (V.drewN k) b H X hbH)).trans k1
      have gf : ∀ k j, ((V.drewN k).setRow b X).frozen? ⟨H, j, none⟩ = false := fun k j => (World.frozen?_of_block (a := ⟨H, j, none⟩) (setRow_other (V.drewN k) b H X hbH)).trans (by simp [World.frozen?, kH])
      have hcp := copy_none
      clear hold h0 h1 kH hV hR hX hXl hVb h9 hcase
      go_upto_region 2 with fail
      by_cases hcl2 : c = len
      · subst hcl2
        go_region
        go_wp2
        go_meet
        exact HM.out _ _ rfl
      · go_region
        go_wp2
        go_meet
        exact HM.out _ _ rfl
  case rest =>
    obtain ⟨v2, cH2, hvv, e1, e2, e3, e4, e5, e6, e7⟩ := hcut
    obtain ⟨xs, hown, hxs⟩ := e5.owns
    obtain ⟨a2, c2, rfl⟩ := e5.form
    simp only [Nat.zero_add] at *
    have hwc : R < wc.heap.size := (Array.getElem?_eq_some_iff.1 e4).1
    have hbw : base ≤ wc.heap.size := by have := (Array.getElem?_eq_some_iff.1 e1).1; omega
    have r0 : wc.cell? ⟨R, 0, none⟩ = some (.int .i64 m.p) := by simp [World.cell?, e4, Msg.arr, msgA]
    have r1 : wc.cell? ⟨R, 1, none⟩ = some (.int .u64 m.q) := by simp [World.cell?, e4, Msg.arr, msgA]
    have r2 : wc.cell? ⟨R, 2, none⟩ = some (.int .u64 m.t) := by simp [World.cell?, e4, Msg.arr, msgA]
    have r3 : wc.cell? ⟨R, 3, none⟩ = some (.slice m.e m.ml m.ml) := by simp [World.cell?, e4, Msg.arr, msgA]
    have r4 : wc.cell? ⟨R, 4, none⟩ = some (.int .u64 0) := by simp [World.cell?, e4, Msg.arr, msgA]
    have r5 : wc.cell? ⟨R, 5, none⟩ = some (.slice none 0 0) := by simp [World.cell?, e4, Msg.arr, msgA]
    have r6 : wc.cell? ⟨R, 6, none⟩ = some (.slice none 0 0) := by simp [World.cell?, e4, Msg.arr, msgA]
    have r7 : wc.cell? ⟨R, 7, none⟩ = some (.bool false) := by simp [World.cell?, e4, Msg.arr, msgA]
    have hfz : wc.frozen? ⟨H, o, none⟩ = false := by simp [World.frozen?, e1]
    have HRR : Hid (∀ w7, Fr base v.ownBlock.toList [] wc w7 → w7.heap[R]? = wc.heap[R]?) := by
      intro w7 h
      refine (h.same e4 ?_ (by simp)).trans e4.symm
      intro hk
      have := hvb R (by simpa using hk)
      have := HR.out
      omega
    have HCC : Hid (∀ w7 : World, w7.heap[H]? = wc.heap[H]? → w7.heap[R]? = wc.heap[R]? → w7.cell? ⟨H, o, none⟩ = some (.slice a2 ms.length c2) ∧ w7.cell? ⟨R, 0, none⟩ = some (.int .i64 m.p) ∧ w7.cell? ⟨R, 1, none⟩ = some (.int .u64 m.q) ∧ w7.cell? ⟨R, 2, none⟩ = some (.int .u64 m.t) ∧ w7.cell? ⟨R, 3, none⟩ = some (.slice m.e m.ml m.ml) ∧ w7.cell? ⟨R, 4, none⟩ = some (.int .u64 0) ∧ w7.cell? ⟨R, 5, none⟩ = some (.slice none 0 0) ∧ w7.cell? ⟨R, 6, none⟩ = some (.slice none 0 0) ∧ w7.cell? ⟨R, 7, none⟩ = some (.bool false)) := by
      intro w7 a1 a2
      exact ⟨(World.cell?_of_block (a := ⟨H, o, none⟩) a1).trans e3, (World.cell?_of_block (a := ⟨R, 0, none⟩) a2).trans r0, (World.cell?_of_block (a := ⟨R, 1, none⟩) a2).trans r1, (World.cell?_of_block (a := ⟨R, 2, none⟩) a2).trans r2, (World.cell?_of_block (a := ⟨R, 3, none⟩) a2).trans r3, (World.cell?_of_block (a := ⟨R, 4, none⟩) a2).trans r4, (World.cell?_of_block (a := ⟨R, 5, none⟩) a2).trans r5, (World.cell?_of_block (a := ⟨R, 6, none⟩) a2).trans r6, (World.cell?_of_block (a := ⟨R, 7, none⟩) a2).trans r7⟩
    have e3a : ∀ X, (wc.alloc X).cell? ⟨H, o, none⟩ = some (.slice a2 ms.length c2) := fun X => Lib.cell?_alloc_some X e3
    have n0 := World.new_ne wc _ e3
    have n1 := World.new_ne wc _ r0
    go_upto_region 5 with fail
    go_region_law (refine step_append_sure _ rfl (.tmp 59) (.tmp 61) 59 rfl base 32 i0 zMsg 8 112 Ybaf.underlying59 hi hz hz1 hz2 rfl (.slice a2 ms.length c2) ms.length xs rfl ?_ (.slice (some ⟨wc.heap.size, 0, none⟩) 1 1) 1 m.cells rfl ?_ (by omega) (by omega) ?_ ?_; go_must (exact hown.alloc _); go_must (exact ⟨rfl, m.one, .inr ⟨_, _, rfl, World.news_of_block (cs := m.arr) (t := 32) (fr := (0, 0)) (heap_alloc_new wc _)⟩⟩); go_must (simp; omega); intro v' w7 g1 g2; obtain ⟨g, cap, rfl, hgb, hgl⟩ := g1.form (by omega); obtain ⟨p1, p2, p3⟩ := push_end hbH0 hvv hne e1 e2 cH hH61 e6 e7 hown hxs (by repeat (first | exact Fr.refl _ _ _ _ | apply Fr.drewN | apply Fr.drew | apply Fr.alloc)) (by intro h; exact LogOK.same (h.alloc m.arr 32 (fun e => by simp at e)) rfl) g1 g2; have p4 : w7.heap[R]? = wc.heap[R]? := HRR.out w7 p2; obtain ⟨j0, j1, j2, j3, j4, j5, j6, j7, j8⟩ := HCC.out w7 p1 p4; have jf : w7.frozen? ⟨H, o, none⟩ = false := (World.frozen?_of_block (a := ⟨H, o, none⟩) p1).trans hfz)
    all_goals
      go_wp2
      go_end0
      exact p3

end Go.Proofs.YbulkbobqFmt
