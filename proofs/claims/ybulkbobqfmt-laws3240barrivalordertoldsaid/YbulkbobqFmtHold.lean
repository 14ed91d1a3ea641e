/-
  The contract of hold.
-/
import Derived.Test.YbulkbobqFmtAl
import Derived.Deep.RegionWith
namespace Go.Proofs.YbulkbobqFmt
open Go.RowKit

def PS.q (σ : PS) (j : Nat) : Nat × List Msg := σ.qs.getD j (0, [])
/-- The message is held. -/
def PS.push (σ : PS) (m : Msg) : PS := { hs := orBit σ.hs m.p, hold := σ.hold + 1, ds := σ.ds, qs := σ.qs.set m.p (0, (σ.q m.p).2 ++ [m]), rs := σ.rs }

theorem PS.q_eq (σ : PS) (j : Nat) (h : j < σ.qs.length) : σ.q j = σ.qs[j] := by
  unfold PS.q
  rw [List.getD_eq_getElem?_getD, List.getElem?_eq_getElem h]
  rfl

set_option maxHeartbeats 1000000 in
theorem hold_any (x : Cx) (w : World) (barred : Bool) (k : Nat) (u : Value) (ws : List (Nat × Int)) (σ : PS) (m : Msg) (h : Al x w barred k u ws σ) (hm : MOK x w m) (hcase : (σ.q m.p).1 = 0 ∨ (0 < (σ.q m.p).1 ∧ (σ.q m.p).2 = [])) (hlen : (σ.q m.p).2.length < 2000) (hhold : σ.hold ≤ 1000000) :
    Calls Ybaf.prog 19 #[.pointer (some ⟨x.O, 0, none⟩), .agg m.arr] w fun e w' => e = .returned (.tuple #[]) ∧ Al x w' barred k u ws (σ.push m) := by
  have h8 := h.st.n8
  have hl8 := pow8 _ h8
  have hp := hm.p
  have hhs := h.hs
  have hpq : m.p < σ.qs.length := by rw [h.ql]; exact hp
  have hqe := σ.q_eq m.p hpq
  have e4 := or_eq σ.hs m.p (by omega) (by omega)
  have hqb := h.qb (σ.qs[m.p]) (List.getElem_mem hpq)
  unfold Msg.arr msgA
  go_enter Ybaf.func19, Ybaf.ntmps19
  go_upto_region 1 with fail
  obtain ⟨W, hW⟩ : ∃ W, W = w.alloc (.cells m.arr 32) := ⟨_, rfl⟩
  have hW' := hW
  unfold Msg.arr msgA at hW'
  rw [← hW']
  have hM : W.heap[w.heap.size]? = some (.cells m.arr 32 (0, 0)) := by rw [hW]; exact heap_alloc_new w _
  have hA : Al x W barred k u ws σ := by rw [hW]; exact h.alloc _ _ (by simp)
  have hMk : MOK x W m := by rw [hW]; exact hm.fr (S := []) (T := []) (A := []) ((Fr.refl _ _ _ _).alloc _) (fun g hg => by simp at hg) (by simp) (by simp)
  obtain ⟨v, cH, ⟨q1, q2, q3, q4, q5, q6⟩, hup⟩ := hA.drew.Q.upd m.p hpq
  have hvM : ∀ g, v.ownBlock = some g → g ≠ w.heap.size := by
    intro g hg
    obtain ⟨v0, cH0, ⟨p1, p2, p3, p4, p5, p6⟩, _⟩ := h.Q.upd m.p hpq
    have hsame : W.heap[x.s.H]? = w.heap[x.s.H]? := by rw [hW]; exact Below.heap_alloc _ _ _ (Array.getElem?_eq_some_iff.1 p1).1
    have : W.drew.cell? ⟨x.s.H, m.p * 2, none⟩ = w.cell? ⟨x.s.H, m.p * 2, none⟩ := World.cell?_of_block hsame
    rw [q2, p2] at this
    simp only [Option.some.injEq] at this
    subst this
    obtain ⟨_, cu, hc⟩ := p5.block g hg
    have := (Array.getElem?_eq_some_iff.1 hc).1
    omega
  obtain ⟨l, scr, ho⟩ := hA.ob
  have c16 : W.cell? ⟨x.O, 16, none⟩ = some (.slice (some ⟨x.s.H, 0, none⟩) x.s.n x.s.cH) := ho.at 16
  have m0 : W.cell? ⟨w.heap.size, 0, none⟩ = some (.int .i64 m.p) := by simp [World.cell?, hM, Msg.arr, msgA]
  have m1 : W.cell? ⟨w.heap.size, 1, none⟩ = some (.int .u64 m.q) := by simp [World.cell?, hM, Msg.arr, msgA]
  have m2 : W.cell? ⟨w.heap.size, 2, none⟩ = some (.int .u64 m.t) := by simp [World.cell?, hM, Msg.arr, msgA]
  have m3 : W.cell? ⟨w.heap.size, 3, none⟩ = some (.slice m.e m.ml m.ml) := by simp [World.cell?, hM, Msg.arr, msgA]
  have m4 : W.cell? ⟨w.heap.size, 4, none⟩ = some (.int .u64 0) := by simp [World.cell?, hM, Msg.arr, msgA]
  have m5 : W.cell? ⟨w.heap.size, 5, none⟩ = some (.slice none 0 0) := by simp [World.cell?, hM, Msg.arr, msgA]
  have m6 : W.cell? ⟨w.heap.size, 6, none⟩ = some (.slice none 0 0) := by simp [World.cell?, hM, Msg.arr, msgA]
  have m7 : W.cell? ⟨w.heap.size, 7, none⟩ = some (.bool false) := by simp [World.cell?, hM, Msg.arr, msgA]
  have hpush := push_any x.base x.s.H (m.p * 2) v _ _ m W.drew q2 q3 q5 (by rw [← hqe]; exact hcase) (by omega) q6 (by obtain ⟨_, _, _, hb, _⟩ := hA.Q; exact hb) cH q1
  have HP : Hid (∀ e w1, PushPost x.base x.s.H (m.p * 2) v σ.qs[m.p].2 m W.drew e w1 → Al x w1 barred k u ws { σ with qs := σ.qs.set m.p (0, (σ.q m.p).2 ++ [m]) } ∧ w1.heap[w.heap.size]? = some (.cells m.arr 32 (0, 0))) := by
    rintro e w1 ⟨rfl, g, c, a1, a2, a3, a4, a5⟩
    have hQ := hup w1 _ 0 _ a3 a5 a1 (fun g' hg' => by simp [Value.ownBlock] at hg'; subst hg'; exact a2)
    rw [← hqe] at hQ
    refine ⟨hA.drew.queue q5 a3 a4 hQ (by simpa using h.ql) (fun q hq => ?_) (fun q hq m' hm' => ?_), ?_⟩
    · rcases List.mem_or_eq_of_mem_set hq with hq | rfl
      · exact h.qb q hq
      · simp only [List.length_append, List.length_cons, List.length_nil]; omega
    · rcases List.mem_or_eq_of_mem_set hq with hq | rfl
      · exact hA.drew.mok q hq m' hm'
      · simp only [List.mem_append, List.mem_cons, List.not_mem_nil, or_false] at hm'
        rcases hm' with hm' | rfl
        · rw [hqe] at hm'
          exact hA.drew.mok _ (List.getElem_mem hpq) m' hm'
        · exact hMk.fr (S := []) (T := []) (A := []) (Fr.refl _ _ _ _).drew (fun g hg => by simp at hg) (by simp) (by simp)
    · refine a3.same (w := W.drew) hM ?_ (by simp)
      simp only [List.mem_cons, Option.mem_toList, not_or]
      refine ⟨fun e => ?_, fun hk => hvM _ hk rfl⟩
      rw [← e] at q1
      have := q1.symm.trans (show W.drew.heap[w.heap.size]? = _ from hM)
      simp at this
  clear hW hW' hup
  unfold Msg.arr msgA at hpush
  generalize w.heap.size = M at *
  go_cut [] from 4 to 12 (fun wd => Al x wd barred k u ws { σ with qs := σ.qs.set m.p (0, (σ.q m.p).2 ++ [m]) } ∧ wd.heap[M]? = some (.cells m.arr 32 (0, 0)))
  case first =>
    go_region_with (go_at_call 24; refine hpush.mono ?_; intro e w1 hw1; have hw2 := HP.out e w1 hw1; obtain ⟨rfl, _⟩ := hw1)
    all_goals
      go_wp2
      go_meet
      exact hw2
  case rest =>
    obtain ⟨hB, hM2⟩ := hcut
    clear hA ho c16 q1 q2 q3 q4 q5 q6 m0 m1 m2 m3 m4 m5 m6 m7 hpush HP hM hvM
    obtain ⟨l2, scr2, ho2⟩ := hB.ob
    have c12 : wc.cell? ⟨x.O, 12, none⟩ = some (.int .i64 σ.hold) := ho2.at 12
    have f12 := ho2.free 12
    have hB2 : Al x (wc.setCell ⟨x.O, 12, none⟩ (.int .i64 (σ.hold + 1 : Nat))) barred k u ws { σ with hold := σ.hold + 1, qs := σ.qs.set m.p (0, (σ.q m.p).2 ++ [m]) } := hB.cell (hs' := σ.hs) (fun l scr ho => ho.setHolding _) hhs
    have hOM : x.O ≠ M := by
      rintro e
      unfold Ob at ho2
      rw [e, hM2] at ho2
      simp at ho2
    have m0 : (wc.setCell ⟨x.O, 12, none⟩ (.int .i64 (σ.hold + 1 : Nat))).cell? ⟨M, 0, none⟩ = some (.int .i64 m.p) := by
      rw [World.cell?_of_block (a := ⟨M, 0, none⟩) (Below.heap_setCell _ _ _ _ (Ne.symm hOM))]
      simp [World.cell?, hM2, Msg.arr, msgA]
    have e12 : ((σ.hold + 1 : Nat) : Int) = (σ.hold : Int) + 1 := by omega
    rw [e12] at hB2 m0
    go_upto_region 3 with fail
    generalize wc.setCell ⟨x.O, 12, none⟩ (.int .i64 ((σ.hold : Int) + 1)) = W3 at hB2 m0 ⊢
    obtain ⟨l3, scr3, ho3⟩ := hB2.ob
    have c13 : W3.cell? ⟨x.O, 13, none⟩ = some (.int .u64 σ.hs) := ho3.at 13
    have f13 := ho3.free 13
    have HB3 : Hid (Al x (W3.setCell ⟨x.O, 13, none⟩ (.int .u64 (orBit σ.hs m.p : Nat))) barred k u ws (σ.push m)) := hB2.cell (fun l scr ho => ho.setHolders _) (or_lt _ _ _ hhs hp)
    clear hB hB2 ho2 ho3 hM2 c12 f12
    go_region
    go_wp2
    go_end0
    exact ⟨rfl, HB3.out.drew⟩

end Go.Proofs.YbulkbobqFmt
