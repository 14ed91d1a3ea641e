/-
  The contract of take.
-/
import Derived.Test.YbulkbobqFmtRelease
namespace Go.Proofs.YbulkbobqFmt
open Go.RowKit

/-- The message is delivered. -/
def PS.put (σ : PS) (m : Msg) : PS := { hs := σ.hs, hold := σ.hold, ds := σ.ds.set m.p m.q, qs := σ.qs, rs := σ.rs ++ [(m.p, m.q)] }
def takeF (x : Cx) (barred : Bool) (σ : PS) (m : Msg) : PS := if barred = true ∨ (σ.q m.p).2 ≠ [] ∨ may x σ m = false then σ.push m else if σ.hold = 0 then σ.put m else rel x (σ.push m)

theorem Inv.push {R : Nat} {σ : PS} {m : Msg} (h : Inv R σ) (hj : m.p < σ.qs.length) : Inv (R + 1) (σ.push m) := by
  obtain ⟨h1, h2⟩ := h
  have := tot_set σ.qs m.p hj (0, (σ.q m.p).2 ++ [m])
  rw [← σ.q_eq m.p hj] at this
  simp only [List.length_append, List.length_cons, List.length_nil] at this
  refine ⟨?_, ?_⟩ <;> simp only [PS.push] <;> omega
theorem Inv.put {R : Nat} {σ : PS} {m : Msg} (h : Inv R σ) : Inv (R + 1) (σ.put m) := by
  obtain ⟨h1, h2⟩ := h
  refine ⟨h1, ?_⟩
  simp only [PS.put, List.length_append, List.length_cons, List.length_nil]
  omega

/-- May the message be pushed? -/
def Room (σ : PS) (m : Msg) : Prop := ((σ.q m.p).1 = 0 ∨ (0 < (σ.q m.p).1 ∧ (σ.q m.p).2 = [])) ∧ (σ.q m.p).2.length < 2000

set_option maxHeartbeats 2000000 in
theorem take_any (x : Cx) (g : Nat) (R : Nat) (u : Value) (ws : List (Nat × Int)) (hg : Back x u ws g) (w : World) (barred : Bool) (σ : PS) (m : Msg) (h : Al x w barred σ.rs.length u ws σ) (hi : Inv R σ) (hR : R < 2000) (hm : MOK x w m) (hr : Room σ m) :
    Calls Ybaf.prog 8 #[.pointer (some ⟨x.O, 0, none⟩), .agg m.arr, .func (.func g) #[] #[.pointer (some ⟨x.C, 0, none⟩)]] w fun e w' => e = .returned (.tuple #[]) ∧ Al x w' barred (takeF x barred σ m).rs.length u ws (takeF x barred σ m) ∧ Inv (R + 1) (takeF x barred σ m) := by
  have hp := hm.p
  have hpq : m.p < σ.qs.length := by rw [h.ql]; exact hp
  have hqe := σ.q_eq m.p hpq
  have hhold : σ.hold ≤ 2000 := by have := hi.2; omega
  have hrs : σ.rs.length ≤ 2000 := by have := hi.2; omega
  obtain ⟨W, hW⟩ : ∃ W, W = w.alloc (.cells m.arr 32) := ⟨_, rfl⟩
  have hM : W.heap[w.heap.size]? = some (.cells m.arr 32 (0, 0)) := by rw [hW]; exact heap_alloc_new w _
  have HA : Hid (Al x W barred σ.rs.length u ws σ) := by rw [hW]; exact h.alloc _ _ (by simp)
  have HMk : Hid (MOK x W m) := by rw [hW]; exact hm.keep ((Fr.refl _ _ _ _).alloc _)
  have HI : Hid (Inv R σ) := hi
  have HRoom : Hid (Room σ m) := hr
  simp only [Msg.arr, msgA] at hW
  obtain ⟨hcf, hback⟩ := hg
  simp only [Msg.arr, msgA]
  go_enter Ybaf.func8, Ybaf.ntmps8
  go_upto_region 1 with fail
  rw [← hW]
  obtain ⟨M, hMe⟩ : ∃ M, M = w.heap.size := ⟨_, rfl⟩
  rw [← hMe] at hM ⊢
  clear hMe hW h hm hi hr
  obtain ⟨m0, m1, m2, m3, m4, m5, m6, m7⟩ := box_cells hM
  obtain ⟨l, scr, ho⟩ := HA.out.ob
  have c26 : W.cell? ⟨x.O, 26, none⟩ = some (.bool barred) := ho.at 26
  have c16 : W.cell? ⟨x.O, 16, none⟩ = some (.slice (some ⟨x.s.H, 0, none⟩) x.s.n x.s.cH) := ho.at 16
  clear ho
  have hhw : ∀ W' : World, Al x W' barred σ.rs.length u ws σ → MOK x W' m → Calls Ybaf.prog 19 #[.pointer (some ⟨x.O, 0, none⟩), .agg m.arr] W' fun e w' => e = .returned (.tuple #[]) ∧ Al x w' barred σ.rs.length u ws (σ.push m) :=
    fun W' hA' hM' => hold_any x W' barred _ u ws σ m hA' hM' HRoom.out.1 HRoom.out.2 (by omega)
  cases barred
  · have hlen := len_al HA.out m.p hpq
    have hAq : ∀ q, Al x (W.drewN q) false σ.rs.length u ws σ := fun q => HA.out.drewN q
    have hMq : ∀ q, MOK x (W.drewN q) m := fun q => HMk.out.keep ((Fr.refl _ _ _ _).drewN q)
    have hMkq : ∀ q, (W.drewN q).heap[M]? = some (.cells m.arr 32 (0, 0)) := fun q => hM
    rcases hms : σ.qs[m.p].2 with _ | ⟨a, ms⟩
    · have HE : Hid ((σ.q m.p).2 = []) := by unfold Hid; rw [hqe]; exact hms
      rw [hms] at hlen
      simp only [List.length_nil] at hlen
      clear hms hqe
      go_wp2_with fail
      refine hlen.mono ?_
      rintro e w1 ⟨rfl, q, rfl⟩
      have hA2 := hAq q
      have HM2 : Hid (MOK x (W.drewN q) m) := hMq q
      have hM2 := hMkq q
      clear hAq hMq hMkq hlen m0 m1 m2 m3 m4 m5 m6 m7 c26 c16 hM
      generalize W.drewN q = W2 at hA2 HM2 hM2 ⊢
      obtain ⟨m0, m1, m2, m3, m4, m5, m6, m7⟩ := box_cells hM2
      have HA2 : Hid (Al x W2 false σ.rs.length u ws σ) := hA2
      have HB2 : Hid (W2.heap[M]? = some (.cells m.arr 32 (0, 0))) := hM2
      clear hA2 hM2
      go_wp2_with fail
      refine (deliverable_al HA2.out HM2.out).mono ?_
      rintro e W3 ⟨rfl, hA3, hf3⟩
      have hM3 := hf3.same HB2.out (by simp) (by simp)
      have HM3 : Hid (MOK x W3 m) := HM2.out.keep hf3
      clear m0 m1 m2 m3 m4 m5 m6 m7 hf3
      obtain ⟨m0, m1, m2, m3, m4, m5, m6, m7⟩ := box_cells hM3
      obtain ⟨l3, scr3, ho3⟩ := hA3.ob
      have c12 : W3.cell? ⟨x.O, 12, none⟩ = some (.int .i64 σ.hold) := ho3.at 12
      have HA3 : Hid (Al x W3 false σ.rs.length u ws σ) := hA3
      have HB3 : Hid (W3.heap[M]? = some (.cells m.arr 32 (0, 0))) := hM3
      clear hA3 ho3 hM3
      cases hmay : may x σ m
      · have HT : Hid (takeF x false σ m = σ.push m) := by unfold Hid takeF; simp [hmay]
        clear hmay c12
        go_wp2_with fail
        refine (hhw W3 HA3.out HM3.out).mono ?_
        rintro e w1 ⟨rfl, hA1⟩
        have HA1 : Hid (Al x w1 false σ.rs.length u ws (σ.push m)) := hA1
        clear hA1 m0 m1 m2 m3 m4 m5 m6 m7
        go_wp2
        go_end0
        rw [HT.out]
        exact ⟨rfl, HA1.out, HI.out.push hpq⟩
      · by_cases h0 : σ.hold = 0
        · have HT : Hid (takeF x false σ m = σ.put m) := by unfold Hid takeF; simp [hmay, HE.out, h0]
          have c12' : W3.cell? ⟨x.O, 12, none⟩ = some (.int .i64 0) := by rw [c12, h0]; rfl
          clear hmay c12 h0
          go_wp2_with fail
          refine (deliver_al HA3.out HM3.out (by omega)).mono ?_
          rintro e W4 ⟨rfl, hA4, hkeep⟩
          have hM4 := hkeep M _ HB3.out
          have HA4 : Hid (Al x W4 false (σ.rs.length + 1) u ws { σ with ds := σ.ds.set m.p m.q }) := hA4
          clear hA4 hkeep m0 m1 m2 m3 m4 m5 m6 m7 c12'
          obtain ⟨m0, m1, m2, m3, m4, m5, m6, m7⟩ := box_cells hM4
          clear hM4
          go_wp2_with fail
          refine (hback σ.rs m W4 HA4.out.cb (by omega)).mono ?_
          intro e W5 hp5
          have hA5 := HA4.out.record hp5
          obtain ⟨rfl, _⟩ := hp5
          have HA5 : Hid (Al x W5 false (σ.put m).rs.length u ws (σ.put m)) := by
            have e : (σ.put m).rs.length = σ.rs.length + 1 := by simp [PS.put]
            rw [e]
            exact hA5
          clear hA5 m0 m1 m2 m3 m4 m5 m6 m7
          go_wp2
          go_end0
          rw [HT.out]
          exact ⟨rfl, HA5.out, HI.out.put⟩
        · have HT : Hid (takeF x false σ m = rel x (σ.push m)) := by unfold Hid takeF; simp [hmay, HE.out, h0]
          have hne : (σ.hold : Int) ≠ 0 := by omega
          clear hmay h0
          go_wp2_with fail
          refine (hhw W3 HA3.out HM3.out).mono ?_
          rintro e w1 ⟨rfl, hA1⟩
          have HS : Hid (St x u ws (R + 1) w1 (σ.push m)) := ⟨hA1, HI.out.push hpq⟩
          clear hA1 m0 m1 m2 m3 m4 m5 m6 m7 c12
          go_wp2_with fail
          refine (release_any x g (R + 1) u ws ⟨hcf, hback⟩ w1 (σ.push m) HS.out (by omega)).mono ?_
          rintro e w2 ⟨rfl, hS2⟩
          have HS2 : Hid (St x u ws (R + 1) w2 (rel x (σ.push m))) := hS2
          clear hS2
          go_wp2
          go_end0
          rw [HT.out]
          exact ⟨rfl, HS2.out.1, HS2.out.2⟩
    · have HT : Hid (takeF x false σ m = σ.push m) := by
        have e : (σ.q m.p).2 ≠ [] := by rw [hqe, hms]; simp
        unfold Hid takeF
        simp [e]
      have hpos : (0 : Int) < ((a :: ms).length : Nat) := by simp
      rw [hms] at hlen
      generalize (a :: ms).length = L at hlen hpos
      clear hms hqe
      go_wp2_with fail
      refine hlen.mono ?_
      rintro e w1 ⟨rfl, q, rfl⟩
      have hA2 := hAq q
      have HM2 : Hid (MOK x (W.drewN q) m) := hMq q
      have hM2 := hMkq q
      clear hAq hMq hMkq hlen m0 m1 m2 m3 m4 m5 m6 m7 c26 c16 hM
      generalize W.drewN q = W2 at hA2 HM2 hM2 ⊢
      obtain ⟨m0, m1, m2, m3, m4, m5, m6, m7⟩ := box_cells hM2
      have HA2 : Hid (Al x W2 false σ.rs.length u ws σ) := hA2
      clear hA2 hM2
      go_wp2_with fail
      refine (hhw W2 HA2.out HM2.out).mono ?_
      rintro e w1 ⟨rfl, hA1⟩
      have HA1 : Hid (Al x w1 false σ.rs.length u ws (σ.push m)) := hA1
      clear hA1 m0 m1 m2 m3 m4 m5 m6 m7
      go_wp2
      go_end0
      rw [HT.out]
      exact ⟨rfl, HA1.out, HI.out.push hpq⟩
  · have HT : Hid (takeF x true σ m = σ.push m) := by unfold Hid takeF; simp
    go_wp2_with fail
    refine (hhw W HA.out HMk.out).mono ?_
    rintro e w1 ⟨rfl, hA1⟩
    have HA1 : Hid (Al x w1 true σ.rs.length u ws (σ.push m)) := hA1
    clear hA1
    go_wp2
    go_end0
    rw [HT.out]
    exact ⟨rfl, HA1.out, HI.out.push hpq⟩

end Go.Proofs.YbulkbobqFmt
