/-
  The contract of latestValues.
-/
import Derived.Test.YbulkbofkIdx
import Derived.Deep.MidRow
namespace Go.Proofs.Ybulkbofk
open Go.RowKit

theorem results_three {P : Program} {fn : Func} {p p2 u : Tmp} {ty ty2 : TypeId} (h : fn.results = #[.cell p ty, .cell p2 ty2, .tmp u]) (tmps : Array Value) (w : World) (g g2 : Nat) (t t2 : TypeId) (cs cs2 : Array Value) (d d2 : TypeDesc) (v : Value)
    (hp : tmps.getD p undef = .pointer (some ⟨g, 0, none⟩)) (hp2 : tmps.getD p2 undef = .pointer (some ⟨g2, 0, none⟩)) (hv : tmps.getD u undef = v) (hg : w.heap[g]? = some (.cells cs t (0, 0))) (hg2 : w.heap[g2]? = some (.cells cs2 t2 (0, 0)))
    (hu : P.underlying ty = some d) (hd : (match d with | .struct _ | .array _ _ => true | _ => false) = true) (hi : (P.info? ty).map (·.size) = some cs.size)
    (hu2 : P.underlying ty2 = some d2) (hd2 : (match d2 with | .struct _ | .array _ _ => true | _ => false) = true) (hi2 : (P.info? ty2).map (·.size) = some cs2.size) :
    (results fn tmps).run P w = .ok (.tuple #[.agg cs, .agg cs2, v]) w := by
  have hp' : tmps[p]?.getD undef = .pointer (some ⟨g, 0, none⟩) := by simpa using hp
  have hp2' : tmps[p2]?.getD undef = .pointer (some ⟨g2, 0, none⟩) := by simpa using hp2
  have hv' : tmps[u]?.getD undef = v := by simpa using hv
  simp [results, h, hp', hp2', hv', asAddr, run_loadVar_row w g t ty cs (0, 0) d hg hu hd hi, run_loadVar_row w g2 t2 ty2 cs2 (0, 0) d2 hg2 hu2 hd2 hi2]

theorem push5 {α : Type} (a : Array α) (x0 x1 x2 x3 x4 : α) : (((((a.push x0).push x1).push x2).push x3).push x4)[a.size]? = some x0 ∧ (((((a.push x0).push x1).push x2).push x3).push x4)[a.size + 1]? = some x1 ∧ (((((a.push x0).push x1).push x2).push x3).push x4)[a.size + 2]? = some x2 ∧ (((((a.push x0).push x1).push x2).push x3).push x4)[a.size + 3]? = some x3 ∧ (((((a.push x0).push x1).push x2).push x3).push x4)[a.size + 4]? = some x4 := by
  refine ⟨?_, ?_, ?_, ?_, ?_⟩ <;> simp only [Array.getElem?_push, Array.size_push] <;> repeat (first | rfl | rw [if_pos (by omega)] | rw [if_neg (by omega)])

/-- Inside latestValues. -/
structure Lat (S Bs L H : Nat) (q0 q1 : List Int) (pid ls ll now : Int) (w W : World) : Prop where
  h : W.heap[H]? = some (.cells (hostA (.slice (some ⟨S, 0, none⟩) q0.length q0.length) (.slice (some ⟨L, 0, none⟩) q1.length q1.length) ls ll) 52 (0, 0))
  p : W.heap[H + 1]? = some (.cells #[.int .i64 pid] 3 (0, 0))
  n : Tb W (H + 2) now
  r1 : Pb W (H + 3) zP
  r2 : Tb W (H + 4) 0
  s : Row W S 32 13 q0.length (pStd q0)
  b : Row W Bs 32 13 q1.length (pLive q1)
  l : Row W L 38 5 q1.length (lpr Bs)
  low : Below H w W
  apart : S < H ∧ Bs < H ∧ L < H

theorem Lat.keep {S Bs L H : Nat} {q0 q1 : List Int} {pid ls ll now : Int} {w W W' : World} (h : Lat S Bs L H q0 q1 pid ls ll now w W) (hb : Below W.heap.size W W') : Lat S Bs L H q0 q1 pid ls ll now w W' := by
  have hs : H + 4 < W.heap.size := (Array.getElem?_eq_some_iff.1 h.r2).1
  obtain ⟨a1, a2, a3⟩ := h.apart
  exact ⟨(hb.block _ (by omega)).trans h.h, (hb.block _ (by omega)).trans h.p, h.n.other (hb.block _ (by omega)), (hb.block _ (by omega)).trans h.r1, h.r2.other (hb.block _ (by omega)), h.s.same (hb.block _ (by omega)), h.b.same (hb.block _ (by omega)), h.l.same (hb.block _ (by omega)), h.low.trans (hb.mono (by omega)), h.apart⟩
theorem Lat.alloc {S Bs L H : Nat} {q0 q1 : List Int} {pid ls ll now : Int} {w W : World} (h : Lat S Bs L H q0 q1 pid ls ll now w W) (o : Obj) : Lat S Bs L H q0 q1 pid ls ll now w (W.alloc o) := h.keep ((Below.refl _ _).alloc (Nat.le_refl _) _)
theorem Lat.drewN {S Bs L H : Nat} {q0 q1 : List Int} {pid ls ll now : Int} {w W : World} (h : Lat S Bs L H q0 q1 pid ls ll now w W) (k : Nat) : Lat S Bs L H q0 q1 pid ls ll now w (W.drewN k) := h.keep ⟨rfl, rfl, rfl, Nat.le_refl _, fun _ _ => rfl⟩
theorem Lat.drew {S Bs L H : Nat} {q0 q1 : List Int} {pid ls ll now : Int} {w W : World} (h : Lat S Bs L H q0 q1 pid ls ll now w W) : Lat S Bs L H q0 q1 pid ls ll now w W.drew := h.keep (Below.refl _ _).drew
theorem Lat.hc {S Bs L H : Nat} {q0 q1 : List Int} {pid ls ll now : Int} {w W : World} (h : Lat S Bs L H q0 q1 pid ls ll now w W) (j : Nat) : W.cell? ⟨H, j, none⟩ = (hostA (.slice (some ⟨S, 0, none⟩) q0.length q0.length) (.slice (some ⟨L, 0, none⟩) q1.length q1.length) ls ll)[j]? := by simp [World.cell?, h.h]

theorem Lat.hcells {S Bs L H : Nat} {q0 q1 : List Int} {pid ls ll now : Int} {w W : World} (h : Lat S Bs L H q0 q1 pid ls ll now w W) :
    W.cell? ⟨H, 0, none⟩ = some (.string ⟨#[]⟩) ∧ W.cell? ⟨H, 1, none⟩ = some (.string ⟨#[]⟩) ∧ W.cell? ⟨H, 2, none⟩ = some (.int .u64 0) ∧ W.cell? ⟨H, 3, none⟩ = some (.int .i64 100) ∧ W.cell? ⟨H, 4, none⟩ = some (.pointer none) ∧ W.cell? ⟨H, 5, none⟩ = some (.float .f64 0) ∧ W.cell? ⟨H, 6, none⟩ = some (.slice (some ⟨S, 0, none⟩) q0.length q0.length) ∧ W.cell? ⟨H, 7, none⟩ = some (.slice none 0 0) ∧ W.cell? ⟨H, 8, none⟩ = some (.slice none 0 0) ∧ W.cell? ⟨H, 9, none⟩ = some (.slice none 0 0) ∧ W.cell? ⟨H, 10, none⟩ = some (.int .u64 0) ∧ W.cell? ⟨H, 11, none⟩ = some (.int .i64 200) ∧ W.cell? ⟨H, 12, none⟩ = some (.pointer none) ∧ W.cell? ⟨H, 13, none⟩ = some (.slice (some ⟨L, 0, none⟩) q1.length q1.length) ∧ W.cell? ⟨H, 14, none⟩ = some (.int .u64 0) ∧ W.cell? ⟨H, 15, none⟩ = some (.int .i64 ls) ∧ W.cell? ⟨H, 16, none⟩ = some (.pointer none) ∧ W.cell? ⟨H, 17, none⟩ = some (.int .u64 0) ∧ W.cell? ⟨H, 18, none⟩ = some (.int .i64 ll) ∧ W.cell? ⟨H, 19, none⟩ = some (.pointer none) ∧ W.cell? ⟨H, 20, none⟩ = some (.int .i64 0) ∧ W.cell? ⟨H, 21, none⟩ = some (.int .i64 0) :=
  ⟨h.hc 0, h.hc 1, h.hc 2, h.hc 3, h.hc 4, h.hc 5, h.hc 6, h.hc 7, h.hc 8, h.hc 9, h.hc 10, h.hc 11, h.hc 12, h.hc 13, h.hc 14, h.hc 15, h.hc 16, h.hc 17, h.hc 18, h.hc 19, h.hc 20, h.hc 21⟩
theorem Lat.pc {S Bs L H : Nat} {q0 q1 : List Int} {pid ls ll now : Int} {w W : World} (h : Lat S Bs L H q0 q1 pid ls ll now w W) : W.cell? ⟨H + 1, 0, none⟩ = some (.int .i64 pid) := by simp [World.cell?, h.p]
/-- What the two result variables hold at the end. -/
theorem Lat.fill {S Bs L H : Nat} {q0 q1 : List Int} {pid ls ll now : Int} {w W : World} (h : Lat S Bs L H q0 q1 pid ls ll now w W) (us : List Value) (hu : us.length = 13) (t : Int) :
    Pb ((((W.setCells (H + 3) 0 us).setCell ⟨H + 4, 0, none⟩ (.int .u64 0)).setCell ⟨H + 4, 1, none⟩ (.int .i64 t)).setCell ⟨H + 4, 2, none⟩ (.pointer none)) (H + 3) us ∧
    Tb ((((W.setCells (H + 3) 0 us).setCell ⟨H + 4, 0, none⟩ (.int .u64 0)).setCell ⟨H + 4, 1, none⟩ (.int .i64 t)).setCell ⟨H + 4, 2, none⟩ (.pointer none)) (H + 4) t ∧
    Below H w ((((W.setCells (H + 3) 0 us).setCell ⟨H + 4, 0, none⟩ (.int .u64 0)).setCell ⟨H + 4, 1, none⟩ (.int .i64 t)).setCell ⟨H + 4, 2, none⟩ (.pointer none)) := by
  obtain ⟨f1, f2⟩ := h.r1.fill rfl hu
  have hb : Below H w (W.setCells (H + 3) 0 us) := by
    have hb := h.low
    have hr := h.r1
    unfold Pb at hr
    rw [setCells_row (H + 3) 32 us 0 _ W hr (by simp [zP]; omega)] at f2 ⊢
    exact ⟨hb.os, hb.tape, hb.output, by simpa [World.setRow] using hb.size, fun k hk => (f2 k (by omega)).trans (hb.block k hk)⟩
  have t2 : Tb (W.setCells (H + 3) 0 us) (H + 4) 0 := h.r2.other (f2 _ (by omega))
  refine ⟨?_, ((t2.set0).set1 t).set2, ((hb.setCell (by simp) _).setCell (by simp) _).setCell (by simp) _⟩
  have e : H + 3 ≠ H + 4 := by omega
  exact (Below.heap_setCell _ _ _ _ e).trans ((Below.heap_setCell _ _ _ _ e).trans ((Below.heap_setCell _ _ _ _ e).trans f1))

theorem Lat.fillD {S Bs L H : Nat} {q0 q1 : List Int} {pid ls ll now : Int} {w W : World} (h : Lat S Bs L H q0 q1 pid ls ll now w W) (us : List Value) (hu : us.length = 13) (t : Int) :
    Pb ((((W.setCells (H + 3) 0 us).setCell ⟨H + 4, 0, none⟩ (.int .u64 0)).setCell ⟨H + 4, 1, none⟩ (.int .i64 t)).setCell ⟨H + 4, 2, none⟩ (.pointer none)).drew (H + 3) us ∧
    Tb ((((W.setCells (H + 3) 0 us).setCell ⟨H + 4, 0, none⟩ (.int .u64 0)).setCell ⟨H + 4, 1, none⟩ (.int .i64 t)).setCell ⟨H + 4, 2, none⟩ (.pointer none)).drew (H + 4) t ∧
    Below H w ((((W.setCells (H + 3) 0 us).setCell ⟨H + 4, 0, none⟩ (.int .u64 0)).setCell ⟨H + 4, 1, none⟩ (.int .i64 t)).setCell ⟨H + 4, 2, none⟩ (.pointer none)).drew :=
  ⟨(h.fill us hu t).1, (h.fill us hu t).2.1, (h.fill us hu t).2.2.drew⟩
theorem Yba.size52 : (Yba.prog.info? 52).map (·.size) = some 22 := by kernel_rfl
theorem Lat.load {S Bs L H : Nat} {q0 q1 : List Int} {pid ls ll now : Int} {w W : World} (h : Lat S Bs L H q0 q1 pid ls ll now w W) :
    (Instr.loadAt 52 (.pointer (some ⟨H, 0, none⟩))).run Yba.prog W = .ok (.agg (hostA (.slice (some ⟨S, 0, none⟩) q0.length q0.length) (.slice (some ⟨L, 0, none⟩) q1.length q1.length) ls ll)) W := by
  refine run_loadAt_mid W H 0 52 (hostA (.slice (some ⟨S, 0, none⟩) q0.length q0.length) (.slice (some ⟨L, 0, none⟩) q1.length q1.length) ls ll).toList _ (fun j v hv => ?_) Yba.underlying52 rfl Yba.size52
  rw [Nat.zero_add, h.hc j]
  simpa using hv
theorem pr_one (pid : Int) (cmd st : ByteArray) (th : Int) (fl : Nat) (rss : Int) : (pr pid cmd st th fl rss).toArray.all (·.oneCell') = true := by simp [pr, s0, Value.oneCell']
theorem Pb.there {w : World} {B : Nat} {vs : List Value} (h : Pb w B vs) (hl : vs.length = 13) : w.there B 0 13 := by
  intro j hj
  obtain ⟨h1, h2⟩ := h.at hl
  refine ⟨?_, h2 _⟩
  rw [h1.2 j hj, List.getElem?_eq_getElem (by omega)]
  rfl
/-- A process is stored into a block of its own. -/
theorem Pb.store {w : World} {B : Nat} {vs : List Value} (h : Pb w B vs) (hl : vs.length = 13) (pid : Int) (cmd st : ByteArray) (th : Int) (fl : Nat) (rss : Int) :
    (Instr.storeAt 32 (.pointer (some ⟨B, 0, none⟩)) (.agg (pr pid cmd st th fl rss).toArray)).run Yba.prog w = .ok () (w.setCells B 0 (pr pid cmd st th fl rss)) :=
  run_storeAt_mid w B 0 32 (pr pid cmd st th fl rss).toArray (h.there hl) Yba.size32 (pr_one ..)

def resP (lm : Bool) (pid : Int) : Option Nat → List Value
  | some j => if lm then pr pid ⟨#[108, 105, 118, 101]⟩ (stB j) ((j : Int) + 1) (hf j) ((j : Int) * 4) else pr pid ⟨#[115, 116, 100]⟩ ⟨#[84]⟩ (100 + (j : Int)) 0 0
  | none => zP
def resT (lm : Bool) : Option Nat → Int
  | some _ => if lm then 200 else 100
  | none => 0
def lmB (ls ll now : Int) : Bool := decide (now - ll < 3) || decide (ls < ll)

def LatPost (q0 q1 : List Int) (pid ls ll now : Int) (w : World) (e : Ending) (w' : World) : Prop :=
  ∃ r, First (if lmB ls ll now then q1 else q0) pid r ∧ e = .returned (.tuple #[.agg (resP (lmB ls ll now) pid r).toArray, tm (resT (lmB ls ll now) r), .bool r.isSome]) ∧ Below w.heap.size w w'

set_option maxRecDepth 100000 in
set_option maxHeartbeats 4000000 in
theorem latest_any (S Bs L : Nat) (q0 q1 : List Int) (pid ls ll now : Int) (w : World) (hS : Row w S 32 13 q0.length (pStd q0)) (hB : Row w Bs 32 13 q1.length (pLive q1)) (hL : Row w L 38 5 q1.length (lpr Bs))
    (h0 : q0.length ≤ 1024) (h1 : q1.length ≤ 1024) (bl : -2147483648 ≤ ll ∧ ll ≤ 2147483647) (bn : -2147483648 ≤ now ∧ now ≤ 2147483647) :
    Calls Yba.prog 7 #[.agg (hostA (.slice (some ⟨S, 0, none⟩) q0.length q0.length) (.slice (some ⟨L, 0, none⟩) q1.length q1.length) ls ll), .int .i64 pid, tm now] w (LatPost q0 q1 pid ls ll now w) := by
  obtain ⟨W, hW⟩ : ∃ W, W = ((((w.alloc (.cells (hostA (.slice (some ⟨S, 0, none⟩) q0.length q0.length) (.slice (some ⟨L, 0, none⟩) q1.length q1.length) ls ll) 52)).alloc (.cells #[.int .i64 pid] 3)).alloc (.cells #[.int .u64 0, .int .i64 now, .pointer none] 28)).alloc (.cells zP.toArray 32)).alloc (.cells #[.int .u64 0, .int .i64 0, .pointer none] 28) := ⟨_, rfl⟩
  have hLat : Lat S Bs L w.heap.size q0 q1 pid ls ll now w W := by
    have hbl : Below w.heap.size w W := by
      rw [hW]
      exact (((((Below.refl _ _).alloc (Nat.le_refl _) _).alloc (by simp) _).alloc (by simp; omega) _).alloc (by simp; omega) _).alloc (by simp; omega) _
    have hh : W.heap = ((((w.heap.push (.cells (hostA (.slice (some ⟨S, 0, none⟩) q0.length q0.length) (.slice (some ⟨L, 0, none⟩) q1.length q1.length) ls ll) 52 (0, 0))).push (.cells #[.int .i64 pid] 3 (0, 0))).push (.cells #[.int .u64 0, .int .i64 now, .pointer none] 28 (0, 0))).push (.cells zP.toArray 32 (0, 0))).push (.cells #[.int .u64 0, .int .i64 0, .pointer none] 28 (0, 0)) := by rw [hW]; rfl
    refine ⟨?_, ?_, ?_, ?_, ?_, hS.same (hbl.block _ hS.lt), hB.same (hbl.block _ hB.lt), hL.same (hbl.block _ hL.lt), hbl, hS.lt, hB.lt, hL.lt⟩
    · rw [hh]; exact (push5 _ _ _ _ _ _).1
    · rw [hh]; exact (push5 _ _ _ _ _ _).2.1
    · unfold Tb; rw [hh]; exact (push5 _ _ _ _ _ _).2.2.1
    · unfold Pb; rw [hh]; exact (push5 _ _ _ _ _ _).2.2.2.1
    · unfold Tb; rw [hh]; exact (push5 _ _ _ _ _ _).2.2.2.2
  have hlive := live_any (.slice (some ⟨S, 0, none⟩) q0.length q0.length) (.slice (some ⟨L, 0, none⟩) q1.length q1.length) ls ll now W bl bn
  simp only [zP, s0] at hW
  have hload : ∃ hv : Array Value, hv = hostA (.slice (some ⟨S, 0, none⟩) q0.length q0.length) (.slice (some ⟨L, 0, none⟩) q1.length q1.length) ls ll ∧ W.rangeAt w.heap.size 0 hv.toList ∧ hv.toList.length = 22 := by
    refine ⟨_, rfl, fun j v hv => ?_, rfl⟩
    rw [Nat.zero_add, hLat.hc j]
    simpa using hv
  obtain ⟨hv, hhv, hload, hvl⟩ := hload
  rw [← hhv] at hW hlive ⊢
  clear hhv
  unfold tm at hlive ⊢
  have hsf := storeF
  go_enter Yba.func7, Yba.ntmps7
  go_upto_region 1 with fail
  rw [← hW]
  obtain ⟨H, hHe⟩ : ∃ H, H = w.heap.size := ⟨_, rfl⟩
  rw [← hHe] at hLat hload ⊢
  have HHE : Hid (w.heap.size = H) := hHe.symm
  clear hW hHe hS hB hL
  obtain ⟨lm, hlm⟩ : ∃ lm, lm = lmB ls ll now := ⟨_, rfl⟩
  have HLM : Hid (lm = lmB ls ll now) := hlm
  simp only [Nat.add_assoc, Nat.reduceAdd]
  go_cut [21] from 12 to 21 (fun b wd => b = .bool lm ∧ Lat S Bs L H q0 q1 pid ls ll now w wd)
  case first =>
    obtain ⟨n0, n1, n2, _⟩ := hLat.n.cells
    have HLat : Hid (Lat S Bs L H q0 q1 pid ls ll now w W) := hLat
    clear hLat
    by_cases hl3 : now - ll < 3
    · have e : lm = true := by rw [hlm]; unfold lmB; simp [hl3]
      rw [decide_eq_true hl3] at hlive
      clear hlm hl3
      subst e
      go_wp2_with (first | (refine wpList_load_mid rfl 52 (.tmp 3) rfl H 0 rfl hv.toList _ hload Yba.underlying52 rfl (by rw [hvl]; exact Yba.size52) ?_; rw [Array.toArray_toList]))
      refine hlive.mono ?_
      rintro e W1 ⟨rfl, hb1⟩
      have HL1 : Hid (Lat S Bs L H q0 q1 pid ls ll now w W1) := HLat.out.keep hb1
      clear hb1 hlive hload n0 n1 n2
      go_wp2
      go_meet
      exact ⟨rfl, HL1.out⟩
    · have e : lm = decide (ls < ll) := by rw [hlm]; unfold lmB; simp [hl3]
      rw [decide_eq_false hl3] at hlive
      clear hlm hl3
      go_wp2_with (first | (refine wpList_load_mid rfl 52 (.tmp 3) rfl H 0 rfl hv.toList _ hload Yba.underlying52 rfl (by rw [hvl]; exact Yba.size52) ?_; rw [Array.toArray_toList]))
      refine hlive.mono ?_
      rintro e1 W1 ⟨rfl, hb1⟩
      have hL1 := HLat.out.keep hb1
      clear hb1 hlive hload n0 n1 n2
      obtain ⟨_, _, _, _, _, _, _, _, _, _, _, _, _, _, c14, c15, c16, c17, c18, c19, _, _⟩ := hL1.hcells
      have HL1 : Hid (Lat S Bs L H q0 q1 pid ls ll now w W1) := hL1
      have haft := after_any ll ls W1
      rw [← e] at haft
      unfold tm at haft
      clear hL1 e
      go_wp2_with fail
      refine haft.mono ?_
      rintro e2 W2 ⟨rfl, hb2⟩
      have HL2 : Hid (Lat S Bs L H q0 q1 pid ls ll now w W2) := HL1.out.keep hb2
      clear hb2 haft c14 c15 c16 c17 c18 c19
      go_wp2
      go_meet
      exact ⟨rfl, HL2.out⟩
  case rest =>
  obtain ⟨rfl, hL1⟩ := hcut
  clear hLat hlive hlm hload
  have HL1 : Hid (Lat S Bs L H q0 q1 pid ls ll now w wc) := hL1
  clear hL1
  cases lm
  · obtain ⟨_, _, c2, c3, c4, _, c6, _⟩ := HL1.out.hcells
    have hidx := idx_any S (H + 1) q0 pid wc HL1.out.s HL1.out.pc h0
    go_wp2_with fail
    refine hidx.mono ?_
    rintro e W2 ⟨r, hr, rfl, hb2⟩
    have hL2 := HL1.out.keep hb2
    clear hb2 hidx c2 c3 c4 c6 HL1
    obtain ⟨_, _, c2, c3, c4, _, c6, _⟩ := hL2.hcells
    obtain ⟨hR, rf⟩ := hL2.r1.at rfl
    obtain ⟨r0, r1, r2, r3, r4, r5, r6, r7, r8, r9, r10, r11, r12⟩ := (show At13 W2 (H + 3) 0 (pr 0 ⟨#[]⟩ ⟨#[]⟩ 0 0 0) from hR).cells
    obtain ⟨t0, t1, t2, tf⟩ := hL2.r2.cells
    simp only [Nat.zero_add] at r0 r1 r2 r3 r4 r5 r6 r7 r8 r9 r10 r11 r12
    have HL2 : Hid (Lat S Bs L H q0 q1 pid ls ll now w W2) := hL2
    rcases r with _ | j
    · have HQ : Hid (∀ w', Below H w w' → LatPost q0 q1 pid ls ll now w (.returned (.tuple #[.agg zP.toArray, tm 0, .bool false])) w') := by
        intro w' hb'
        refine ⟨none, ?_, ?_, by rw [HHE.out]; exact hb'⟩
        · rw [← HLM.out]; exact hr
        · rw [← HLM.out]; rfl
      have HF := HL2.out.fill zP rfl 0
      have HF : Hid (_ ∧ _ ∧ _) := HF
      have hneg : rOf none = -1 := rfl
      clear hL2 hR hr
      rw [hneg]
      go_wp2
      exact bodyPost_ret (results_three (p := 6) (p2 := 7) (u := 8) (ty := 32) (ty2 := 28) rfl _ _ (H + 3) (H + 4) 32 28 zP.toArray #[.int .u64 0, .int .i64 0, .pointer none] _ _ (.bool false) rfl rfl rfl HF.out.1 HF.out.2.1 Yba.underlying32 rfl Yba.size32 Yba.underlying28 rfl Yba.size28) rfl (HQ.out _ HF.out.2.2)
    · obtain ⟨hjl, hje, _⟩ := id hr
      obtain ⟨s0, s1, s2, s3, s4, s5, s6, s7, s8, s9, s10, s11, s12⟩ := (show At13 W2 S (j * 13) (pr (q0.getD j 0) ⟨#[115, 116, 100]⟩ ⟨#[84]⟩ (100 + (j : Int)) 0 0) from hL2.s.at13 j hjl).cells
      rw [hje] at s0
      have HQ : Hid (∀ w', Below H w w' → LatPost q0 q1 pid ls ll now w (.returned (.tuple #[.agg (pr pid ⟨#[115, 116, 100]⟩ ⟨#[84]⟩ (100 + (j : Int)) 0 0).toArray, tm 100, .bool true])) w') := by
        intro w' hb'
        refine ⟨some j, ?_, ?_, by rw [HHE.out]; exact hb'⟩
        · rw [← HLM.out]; exact hr
        · rw [← HLM.out]; rfl
      have HF := HL2.out.fillD (pr pid ⟨#[115, 116, 100]⟩ ⟨#[84]⟩ (100 + (j : Int)) 0 0) rfl 100
      simp only [pr, World.setCells] at HF
      have HF : Hid (_ ∧ _ ∧ _) := HF
      have hpos : rOf (some j) = (j : Int) := rfl
      have hjl2 : (j : Int) < q0.length := by omega
      clear hL2 hR hr hje
      rw [hpos]
      go_upto_region 11 with fail
      go_region
      go_wp2
      exact bodyPost_ret (results_three (p := 6) (p2 := 7) (u := 8) (ty := 32) (ty2 := 28) rfl _ _ (H + 3) (H + 4) 32 28 (pr pid ⟨#[115, 116, 100]⟩ ⟨#[84]⟩ (100 + (j : Int)) 0 0).toArray #[.int .u64 0, .int .i64 100, .pointer none] _ _ (.bool true) rfl rfl rfl HF.out.1 HF.out.2.1 Yba.underlying32 rfl Yba.size32 Yba.underlying28 rfl Yba.size28) rfl (HQ.out _ HF.out.2.2)
  · obtain ⟨_, _, _, _, _, _, _, _, _, _, c10, c11, c12, c13, _⟩ := HL1.out.hcells
    go_wp2_with fail
    clear c10 c11 c12 c13
    go_loopw [26] (fun i wr => ∃ k : Nat, i = .int .i64 k ∧ k ≤ q1.length ∧ Lat S Bs L H q0 q1 pid ls ll now w wr ∧ ∀ i, i < k → q1.getD i 0 ≠ pid) (fun i _ => q1.length - (intOf i).toNat)
    case atStart => exact ⟨0, rfl, Nat.zero_le _, HL1.out, fun i hi => by omega⟩
    case round =>
      obtain ⟨k, rfl, hk, hL2, hne⟩ := hrel
      have HL2 : Hid (Lat S Bs L H q0 q1 pid ls ll now w wr) := hL2
      have HN : Hid (∀ i, i < k → q1.getD i 0 ≠ pid) := hne
      clear hne HL1
      by_cases hkl : k < q1.length
      · have l0 : wr.cell? ⟨L, k * 5, none⟩ = some (.pointer (some ⟨Bs, k * 13, none⟩)) := hL2.l.cell k 0 hkl (by omega)
        have l1 : wr.cell? ⟨L, k * 5 + 1, none⟩ = some (.string (stB k)) := hL2.l.cell k 1 hkl (by omega)
        have l2 : wr.cell? ⟨L, k * 5 + 2, none⟩ = some (.int .i64 ((k : Int) + 1)) := hL2.l.cell k 2 hkl (by omega)
        have l3 : wr.cell? ⟨L, k * 5 + 3, none⟩ = some (.float .f64 (hf k)) := hL2.l.cell k 3 hkl (by omega)
        have l4 : wr.cell? ⟨L, k * 5 + 4, none⟩ = some (.int .u64 ((k : Int) * 4)) := hL2.l.cell k 4 hkl (by omega)
        have hkl2 : (k : Int) < q1.length := by omega
        clear hL2
        go_upto_region 5 with fail
        have hL3 := HL2.out.alloc (.cells #[.pointer (some ⟨Bs, k * 13, none⟩), .string (stB k), .int .i64 ((k : Int) + 1), .float .f64 (hf k), .int .u64 ((k : Int) * 4)] 38)
        have hY : (wr.alloc (.cells #[.pointer (some ⟨Bs, k * 13, none⟩), .string (stB k), .int .i64 ((k : Int) + 1), .float .f64 (hf k), .int .u64 ((k : Int) * 4)] 38)).heap[wr.heap.size]? = some (.cells #[.pointer (some ⟨Bs, k * 13, none⟩), .string (stB k), .int .i64 ((k : Int) + 1), .float .f64 (hf k), .int .u64 ((k : Int) * 4)] 38 (0, 0)) := heap_alloc_new wr _
        clear l0 l1 l2 l3 l4
        generalize wr.alloc (.cells #[.pointer (some ⟨Bs, k * 13, none⟩), .string (stB k), .int .i64 ((k : Int) + 1), .float .f64 (hf k), .int .u64 ((k : Int) * 4)] 38) = W3 at hL3 hY ⊢
        generalize wr.heap.size = Y at hY ⊢
        have y0 : W3.cell? ⟨Y, 0, none⟩ = some (.pointer (some ⟨Bs, k * 13, none⟩)) := by simp [World.cell?, hY]
        have hpc := hL3.pc
        obtain ⟨b0, _⟩ := (show At13 W3 Bs (k * 13) (pr (q1.getD k 0) ⟨#[108, 105, 118, 101]⟩ ⟨#[88]⟩ (-1) 0 0) from hL3.b.at13 k hkl).cells
        have HL3 : Hid (Lat S Bs L H q0 q1 pid ls ll now w W3) := hL3
        have HY : Hid (W3.heap[Y]? = some (.cells #[.pointer (some ⟨Bs, k * 13, none⟩), .string (stB k), .int .i64 ((k : Int) + 1), .float .f64 (hf k), .int .u64 ((k : Int) * 4)] 38 (0, 0))) := hY
        clear hL3 hY HL2
        by_cases he : q1.getD k 0 = pid
        · rw [he] at b0
          have HFi : Hid (First q1 pid (some k)) := ⟨hkl, he, HN.out⟩
          clear he
          go_quiet (fail)
          have hL4 := HL3.out.drewN nq
          have hY4 : (W3.drewN nq).heap[Y]? = some (.cells #[.pointer (some ⟨Bs, k * 13, none⟩), .string (stB k), .int .i64 ((k : Int) + 1), .float .f64 (hf k), .int .u64 ((k : Int) * 4)] 38 (0, 0)) := HY.out
          clear y0 hpc b0
          generalize W3.drewN nq = W4 at hL4 hY4 ⊢
          go_upto_region 6 with fail
          have y0 : W4.cell? ⟨Y, 0, none⟩ = some (.pointer (some ⟨Bs, k * 13, none⟩)) := by simp [World.cell?, hY4]
          have y1 : W4.cell? ⟨Y, 1, none⟩ = some (.string (stB k)) := by simp [World.cell?, hY4]
          have y2 : W4.cell? ⟨Y, 2, none⟩ = some (.int .i64 ((k : Int) + 1)) := by simp [World.cell?, hY4]
          have y3 : W4.cell? ⟨Y, 3, none⟩ = some (.float .f64 (hf k)) := by simp [World.cell?, hY4]
          have y4 : W4.cell? ⟨Y, 4, none⟩ = some (.int .u64 ((k : Int) * 4)) := by simp [World.cell?, hY4]
          obtain ⟨_, _, _, _, _, _, _, _, _, _, c10, c11, c12, _⟩ := hL4.hcells
          have hproc := proc_any Bs (k * 13) (q1.getD k 0) ⟨#[108, 105, 118, 101]⟩ ⟨#[88]⟩ (stB k) (-1) ((k : Int) + 1) 0 (hf k) 0 ((k : Int) * 4) W4.drew (hL4.drew.b.at13 k hkl)
          rw [HFi.out.2.1] at hproc
          have HK : Hid (∀ w9, Below W4.drew.heap.size W4.drew w9 → Lat S Bs L H q0 q1 pid ls ll now w w9) := fun w9 h9 => hL4.drew.keep h9
          have HQ : Hid (∀ w', Below H w w' → LatPost q0 q1 pid ls ll now w (.returned (.tuple #[.agg (pr pid ⟨#[108, 105, 118, 101]⟩ (stB k) ((k : Int) + 1) (hf k) ((k : Int) * 4)).toArray, tm 200, .bool true])) w') := by
            intro w' hb'
            refine ⟨some k, ?_, ?_, by rw [HHE.out]; exact hb'⟩
            · rw [← HLM.out]; exact HFi.out
            · rw [← HLM.out]; rfl
          have HFL : Hid (∀ w9, Lat S Bs L H q0 q1 pid ls ll now w w9 → _) := fun w9 h9 => h9.fill (pr pid ⟨#[108, 105, 118, 101]⟩ (stB k) ((k : Int) + 1) (hf k) ((k : Int) * 4)) rfl 200
          simp only [pr, s0] at hproc
          clear hL4 hY4 HL3 HY
          go_region_with (go_at_call 19; refine hproc.mono ?_; rintro e w9 ⟨rfl, hb9⟩; have hL9 := HK.out w9 hb9; obtain ⟨_, _, _, _, _, _, _, _, _, _, d10, d11, d12, _⟩ := hL9.hcells; obtain ⟨hR, rf⟩ := hL9.r1.at rfl; obtain ⟨r0, r1, r2, r3, r4, r5, r6, r7, r8, r9, r10, r11, r12⟩ := (show At13 w9 (H + 3) 0 (pr 0 ⟨#[]⟩ ⟨#[]⟩ 0 0 0) from hR).cells; obtain ⟨t0, t1, t2, tf⟩ := hL9.r2.cells; simp only [Nat.zero_add] at r0 r1 r2 r3 r4 r5 r6 r7 r8 r9 r10 r11 r12; have HL9 : Hid (Lat S Bs L H q0 q1 pid ls ll now w w9) := hL9; clear hL9 hR hb9)
          all_goals
            have HF := HFL.out w9 HL9.out
            simp only [pr, s0, World.setCells] at HF
            have HF : Hid (_ ∧ _ ∧ _) := HF
            go_wp2
            exact bodyPost_ret (results_three (p := 6) (p2 := 7) (u := 8) (ty := 32) (ty2 := 28) rfl _ _ (H + 3) (H + 4) 32 28 (pr pid ⟨#[108, 105, 118, 101]⟩ (stB k) ((k : Int) + 1) (hf k) ((k : Int) * 4)).toArray #[.int .u64 0, .int .i64 200, .pointer none] _ _ (.bool true) rfl rfl rfl HF.out.1 HF.out.2.1 Yba.underlying32 rfl Yba.size32 Yba.underlying28 rfl Yba.size28) rfl (HQ.out _ HF.out.2.2)
        · have he2 : (q1.getD k 0 == pid) = false := by simpa using he
          have HFi : Hid (∀ i, i < k + 1 → q1.getD i 0 ≠ pid) := by
            intro i hi
            rcases Nat.lt_or_ge i k with h | h
            · exact HN.out i h
            · rw [show i = k by omega]; exact he
          generalize q1.getD k 0 = z at b0 he2 he
          clear he
          go_quiet (fail)
          have HL4 : Hid (Lat S Bs L H q0 q1 pid ls ll now w (W3.drewN nq)) := HL3.out.drewN nq
          generalize W3.drewN nq = W4 at HL4 ⊢
          clear y0 hpc b0
          go_wp2
          go_roundw
          case rel => exact ⟨k + 1, by simp, by omega, HL4.out, HFi.out⟩
          case measure => simp [intOf]; omega
      · obtain rfl : k = q1.length := by omega
        have HQ : Hid (∀ w', Below H w w' → LatPost q0 q1 pid ls ll now w (.returned (.tuple #[.agg zP.toArray, tm 0, .bool false])) w') := by
          intro w' hb'
          refine ⟨none, ?_, ?_, by rw [HHE.out]; exact hb'⟩
          · rw [← HLM.out]; exact HN.out
          · rw [← HLM.out]; rfl
        have HF := HL2.out.fill zP rfl 0
        have HF : Hid (_ ∧ _ ∧ _) := HF
        obtain ⟨hR, rf⟩ := hL2.r1.at rfl
        obtain ⟨r0, r1, r2, r3, r4, r5, r6, r7, r8, r9, r10, r11, r12⟩ := (show At13 wr (H + 3) 0 (pr 0 ⟨#[]⟩ ⟨#[]⟩ 0 0 0) from hR).cells
        obtain ⟨t0, t1, t2, tf⟩ := hL2.r2.cells
        simp only [Nat.zero_add] at r0 r1 r2 r3 r4 r5 r6 r7 r8 r9 r10 r11 r12
        clear hL2 hR hkl hk
        go_wp2
        exact bodyPost_ret (results_three (p := 6) (p2 := 7) (u := 8) (ty := 32) (ty2 := 28) rfl _ _ (H + 3) (H + 4) 32 28 zP.toArray #[.int .u64 0, .int .i64 0, .pointer none] _ _ (.bool false) rfl rfl rfl HF.out.1 HF.out.2.1 Yba.underlying32 rfl Yba.size32 Yba.underlying28 rfl Yba.size28) rfl (HQ.out _ HF.out.2.2)


end Go.Proofs.Ybulkbofk
