/-
  The contract of release.
-/
import Derived.Test.YbulkbobqFmtAlc
import Derived.Deep.LoopGhost
namespace Go.Proofs.YbulkbobqFmt
open Go.RowKit

/-- What the callback is worth. -/
def Back (x : Cx) (u : Value) (ws : List (Nat × Int)) (g : Nat) : Prop := (∀ args w, (callFunc g args).run Ybaf.prog w = .ok (.enter g args) w) ∧ ∀ (rs : List (Nat × Int)) (m : Msg) (w : World), Cb x.base w x.C rs u ws → rs.length ≤ 1000000 → Calls Ybaf.prog g #[.agg m.arr, .pointer (some ⟨x.C, 0, none⟩)] w (CbPost x.base x.C rs u ws m w)

theorem back14 (x : Cx) (u : Value) (ws : List (Nat × Int)) : Back x u ws 14 := ⟨fun _ _ => by kernel_rfl, fun rs m w hc hl => cb14_any x.base x.C rs u ws m w hc hl⟩
theorem back6 (x : Cx) (u : Value) (ws : List (Nat × Int)) : Back x u ws 6 := ⟨fun _ _ => by kernel_rfl, fun rs m w hc hl => cb6_any x.base x.C rs u ws m w hc hl⟩

theorem box_cells {w : World} {M : Nat} {m : Msg} (h : w.heap[M]? = some (.cells m.arr 32 (0, 0))) :
    w.cell? ⟨M, 0, none⟩ = some (.int .i64 m.p) ∧ w.cell? ⟨M, 1, none⟩ = some (.int .u64 m.q) ∧ w.cell? ⟨M, 2, none⟩ = some (.int .u64 m.t) ∧ w.cell? ⟨M, 3, none⟩ = some (.slice m.e m.ml m.ml) ∧
    w.cell? ⟨M, 4, none⟩ = some (.int .u64 0) ∧ w.cell? ⟨M, 5, none⟩ = some (.slice none 0 0) ∧ w.cell? ⟨M, 6, none⟩ = some (.slice none 0 0) ∧ w.cell? ⟨M, 7, none⟩ = some (.bool false) := by
  refine ⟨?_, ?_, ?_, ?_, ?_, ?_, ?_, ?_⟩ <;> simp [World.cell?, h, Msg.arr, msgA]

/-- The state with its counts. -/
def St (x : Cx) (u : Value) (ws : List (Nat × Int)) (R : Nat) (w : World) (σ : PS) : Prop := Al x w false σ.rs.length u ws σ ∧ Inv R σ

/-- Inside queue j's loop. -/
def In3 (x : Cx) (u : Value) (ws : List (Nat × Int)) (R j : Nat) (σ1 σ2 : PS) (k : Nat) (b : Bool) (w : World) (σ3 : PS) : Prop :=
  St x u ws R w σ3 ∧ b = decide (σ1.rs.length < σ3.rs.length) ∧ k = (σ3.q j).2.length ∧ dr x j (σ3.q j).2 σ3 = dr x j (σ2.q j).2 σ2 ∧ σ1.rs.length ≤ σ3.rs.length

/-- Inside a pass. -/
def In2 (x : Cx) (u : Value) (ws : List (Nat × Int)) (R : Nat) (σ1 : PS) (hh : Nat) (b : Bool) (w : World) (σ2 : PS) : Prop :=
  St x u ws R w σ2 ∧ hh < 2 ^ x.s.n ∧ b = decide (σ1.rs.length < σ2.rs.length) ∧ (bitsOf hh).foldl (visit x) σ2 = pass x σ1 ∧ σ1.rs.length ≤ σ2.rs.length

/-- Between passes. -/
def In1 (x : Cx) (u : Value) (ws : List (Nat × Int)) (R : Nat) (σ : PS) (k : Nat) (b : Bool) (w : World) (σ1 : PS) : Prop :=
  St x u ws R w σ1 ∧ ((b = true ∧ σ1.hold < k ∧ relF x k σ1 = rel x σ) ∨ (b = false ∧ σ1 = rel x σ))

section
variable {x : Cx} {u : Value} {ws : List (Nat × Int)} {R : Nat} {σ σ1 σ2 σ3 : PS} {w w' : World} {b : Bool}
theorem In2.start (h : St x u ws R w σ1) : In2 x u ws R σ1 σ1.hs false w σ1 := ⟨h, h.1.hs, by simp, rfl, Nat.le_refl _⟩
theorem In2.done (h : In2 x u ws R σ1 0 b w σ2) : σ2 = pass x σ1 := h.2.2.2.1
theorem In2.next {k : Nat} (h : In2 x u ws R σ1 0 b w σ2) (hi : Inv R σ1) (hk : σ1.hold < k + 1) (hr : relF x (k + 1) σ1 = rel x σ) : ∃ k', k' < k + 1 ∧ In1 x u ws R σ k' b w σ2 := by
  have e := h.done
  obtain ⟨hs, _, hb, _, _⟩ := h
  by_cases hp : σ1.rs.length < σ2.rs.length
  · refine ⟨k, by omega, hs, .inl ⟨by rw [hb]; simpa using hp, ?_, ?_⟩⟩
    · have := hs.2.2
      have := hi.2
      omega
    · rw [← hr]
      show relF x k σ2 = if σ1.rs.length < (pass x σ1).rs.length then relF x k (pass x σ1) else pass x σ1
      rw [← e, if_pos hp]
  · refine ⟨0, by omega, hs, .inr ⟨by rw [hb]; simpa using hp, ?_⟩⟩
    rw [← hr]
    show σ2 = if σ1.rs.length < (pass x σ1).rs.length then relF x k (pass x σ1) else pass x σ1
    rw [← e, if_neg hp]
theorem In3.start {hh j : Nat} (h : In2 x u ws R σ1 hh b w σ2) : In3 x u ws R j σ1 σ2 (σ2.q j).2.length b w σ2 := ⟨h.1, h.2.2.1, rfl, rfl, h.2.2.2.2⟩
/-- Queue j is done. -/
theorem In3.done {hh j k : Nat} {b2 : Bool} (h2 : In2 x u ws R σ1 hh b2 w σ2) (h8 : x.s.n ≤ 8) (h0 : hh ≠ 0) (hj : j = Lib.ctz 64 hh) (h : In3 x u ws R j σ1 σ2 k b w' σ3) (hd : dr x j (σ3.q j).2 σ3 = σ3) {w'' : World} (hA : Al x w'' false (σ3.tidy j).rs.length u ws (σ3.tidy j)) :
    In2 x u ws R σ1 (dropLow hh) b w'' (σ3.tidy j) := by
  obtain ⟨⟨_, hi⟩, hb, _, he, hl⟩ := h
  have hrs : (σ3.tidy j).rs = σ3.rs := by unfold PS.tidy; split <;> rfl
  have hqs : (σ3.tidy j).qs = σ3.qs := by unfold PS.tidy; split <;> rfl
  have hhold : (σ3.tidy j).hold = σ3.hold := by unfold PS.tidy; split <;> rfl
  have hlt : hh < 2 ^ x.s.n := h2.2.1
  have hfold : (bitsOf hh).foldl (visit x) σ2 = pass x σ1 := h2.2.2.2.1
  refine ⟨⟨hA, ?_⟩, Nat.lt_of_le_of_lt (drop_le _) hlt, by rw [hrs]; exact hb, ?_, by rw [hrs]; exact hl⟩
  · unfold Inv
    rw [hrs, hqs, hhold]
    exact hi
  · rw [bits_cons hh (Nat.lt_of_lt_of_le hlt (pow8 _ h8)) h0, List.foldl_cons, ← hj] at hfold
    rw [← hfold]
    unfold visit
    rw [← he, hd]
/-- The front message goes. -/
theorem In3.go {j k hd : Nat} {m : Msg} {ms : List Msg} (h : In3 x u ws R j σ1 σ2 k b w σ3) (hj : j < σ3.qs.length) (hq : σ3.qs[j] = (hd, m :: ms)) (hm : may x σ3 m = true) (hA : Al x w' false (σ3.rs.length + 1) u ws (σ3.go j m ms)) :
    ms.length < k ∧ In3 x u ws R j σ1 σ2 ms.length true w' (σ3.go j m ms) := by
  obtain ⟨⟨_, hi⟩, hb, hk, he, hl⟩ := h
  have hql : (σ3.q j).2 = m :: ms := by rw [σ3.q_eq j hj, hq]
  have hq2 : (σ3.go j m ms).q j = (hd + 1, ms) := by
    rw [PS.q_eq _ j (by simpa [PS.go] using hj)]
    simp [PS.go, σ3.q_eq j hj, hq]
  have hrl : (σ3.go j m ms).rs.length = σ3.rs.length + 1 := by simp [PS.go]
  refine ⟨by rw [hk, hql]; simp, ⟨by rw [hrl]; exact hA, (hi.go hj hq).2⟩, by rw [hrl]; simp; omega, by rw [hq2], ?_, by rw [hrl]; omega⟩
  rw [← he, hql, hq2]
  show _ = if may x σ3 m then dr x j ms (σ3.go j m ms) else σ3
  rw [if_pos hm]
theorem hi3 {j k hd : Nat} {m : Msg} {ms : List Msg} (h : In3 x u ws R j σ1 σ2 k b w σ3) (hj : j < σ3.qs.length) (hq : σ3.qs[j] = (hd, m :: ms)) : 1 ≤ σ3.hold ∧ σ3.rs.length + σ3.hold = R := ⟨(h.1.2.go hj hq).1, h.1.2.2⟩
end


set_option maxHeartbeats 2000000 in
theorem release_any (x : Cx) (g : Nat) (R : Nat) (u : Value) (ws : List (Nat × Int)) (hg : Back x u ws g) (w : World) (σ : PS) (h : St x u ws R w σ) (hR : R ≤ 2000) :
    Calls Ybaf.prog 21 #[.pointer (some ⟨x.O, 0, none⟩), .func (.func g) #[] #[.pointer (some ⟨x.C, 0, none⟩)]] w fun e w' => e = .returned (.tuple #[]) ∧ St x u ws R w' (rel x σ) := by
  obtain ⟨l0, scr0, ho0⟩ := h.1.ob
  have c26 : w.cell? ⟨x.O, 26, none⟩ = some (.bool false) := ho0.at 26
  have h8 := h.1.st.n8
  obtain ⟨hcf, hback⟩ := hg
  have hl8 := pow8 _ h8
  go_enter Ybaf.func21, Ybaf.ntmps21
  go_wp2_with fail
  go_loopg [4] (σ.hold + 1) (fun k t4 wr => ∃ b σ1, t4 = .bool b ∧ In1 x u ws R σ k b wr σ1)
  case atStart => exact ⟨true, σ, rfl, h, .inl ⟨rfl, by omega, rfl⟩⟩
  case round =>
    obtain ⟨b1, σ1, rfl, hs1, hor⟩ := hrel
    rcases hor with ⟨rfl, hk1, hr1⟩ | ⟨rfl, rfl⟩
    · obtain ⟨K1, rfl⟩ : ∃ K1, gk = K1 + 1 := ⟨gk - 1, by omega⟩
      have HK1 : Hid (σ1.hold < K1 + 1 ∧ relF x (K1 + 1) σ1 = rel x σ) := ⟨hk1, hr1⟩
      obtain ⟨l1, scr1, ho1⟩ := hs1.1.ob
      have c13 : wr.cell? ⟨x.O, 13, none⟩ = some (.int .u64 σ1.hs) := ho1.at 13
      have HS1 : Hid (St x u ws R wr σ1) := hs1
      clear hk1 hr1 hs1 ho1 ho0 c26 h
      go_wp2_with fail
      clear c13
      go_loopg [4, 5] σ1.hs (fun k t4 t5 wr => ∃ b σ2, t4 = .bool b ∧ t5 = .int .u64 (k : Nat) ∧ In2 x u ws R σ1 k b wr σ2)
      case atStart => exact ⟨false, σ1, rfl, rfl, In2.start HS1.out⟩
      case round =>
        obtain ⟨b2, σ2, rfl, rfl, h2⟩ := hrel
        by_cases hh0 : gk = 0
        · subst hh0
          have H2 : Hid (In2 x u ws R σ1 0 b2 wr σ2) := h2
          clear h2
          obtain ⟨k', hk', h1'⟩ := H2.out.next HS1.out.2 HK1.out.1 HK1.out.2
          have H1' : Hid (In1 x u ws R σ k' b2 wr σ2) := h1'
          clear h1'
          go_wp2
          go_roundg k'
          case rel => exact ⟨b2, σ2, rfl, H1'.out⟩
          case measure => exact hk'
        · have hhlt := h2.2.1
          obtain ⟨hh, hhe⟩ : ∃ hh, hh = gk := ⟨_, rfl⟩
          subst hhe
          have hT := h2.1.1.tab
          have hjn := ctz_lt x.s.n hh h8 hhlt hh0
          obtain ⟨l2, scr2, ho2⟩ := h2.1.1.ob
          have c16 : wr.cell? ⟨x.O, 16, none⟩ = some (.slice (some ⟨x.s.H, 0, none⟩) x.s.n x.s.cH) := ho2.at 16
          have htz := tz_any hh (by omega) hh0 wr hT
          have H2 : Hid (In2 x u ws R σ1 hh b2 wr σ2) := h2
          have Hj : Hid (Lib.ctz 64 hh = Lib.ctz 64 hh) := rfl
          generalize hj : Lib.ctz 64 hh = j at hjn htz
          have HJ : Hid (j = Lib.ctz 64 hh) := hj.symm
          have HD : Hid (bits .and .u64 (hh : Int) ((hh : Int) - 1) = (dropLow hh : Nat)) := drop_eq hh (by omega) hh0
          clear hj h2 ho2 Hj
          go_wp2_with fail
          refine htz.mono ?_
          rintro e w1 ⟨rfl, rfl⟩
          go_wp2_with fail
          clear c16 hT htz
          go_loopg [4] (σ2.q j).2.length (fun k t4 wr => ∃ b σ3, t4 = .bool b ∧ In3 x u ws R j σ1 σ2 k b wr σ3)
          case atStart => exact ⟨b2, σ2, rfl, In3.start H2.out⟩
          case round =>
            obtain ⟨b3, σ3, rfl, h3⟩ := hrel
            have hA := h3.1.1
            have hjq : j < σ3.qs.length := by rw [hA.ql]; exact hjn
            have hqe := σ3.q_eq j hjq
            have hlen := len_al hA j hjq
            rcases hms : σ3.qs[j].2 with _ | ⟨m, ms⟩
            · have hlen2 : ∀ q, Calls Ybaf.prog 17 #[.pointer (some ⟨x.s.H, j * 2, none⟩)] (wr.drewN q) fun e w' => e = .returned (.int .i64 (σ3.qs[j].2.length : Nat)) ∧ ∃ q', w' = (wr.drewN q).drewN q' := fun q => len_al (hA.drewN q) j hjq
              rw [hms] at hlen
              simp only [hms] at hlen2
              have H3 : Hid (In3 x u ws R j σ1 σ2 gk b3 wr σ3) := h3
              have HT : Hid (σ3.tidy j = σ3.drop j ∧ dr x j (σ3.q j).2 σ3 = σ3) := by
                have e : (σ3.q j).2 = [] := by rw [hqe]; exact hms
                refine ⟨by unfold PS.tidy; rw [e]; rfl, by rw [e]; rfl⟩
              clear h3 hms hqe
              simp only [List.length_nil] at hlen hlen2
              go_wp2_with fail
              refine hlen.mono ?_
              rintro e w1 ⟨rfl, q, rfl⟩
              go_wp2_with fail
              refine (hlen2 q).mono ?_
              rintro e w1 ⟨rfl, q', rfl⟩
              have hA4 : Al x ((wr.drewN q).drewN q') false σ3.rs.length u ws σ3 := (hA.drewN q).drewN q'
              clear hlen hlen2 hA
              generalize (wr.drewN q).drewN q' = W4 at hA4 ⊢
              obtain ⟨l4, scr4, ho4⟩ := hA4.ob
              have c13 : W4.cell? ⟨x.O, 13, none⟩ = some (.int .u64 σ3.hs) := ho4.at 13
              have f13 := ho4.free 13
              have HA5 : Hid (Al x (W4.setCell ⟨x.O, 13, none⟩ (.int .u64 (clrBit σ3.hs j : Nat))) false (σ3.tidy j).rs.length u ws (σ3.tidy j)) := by
                rw [HT.out.1]
                exact hA4.cell (fun l scr ho => ho.setHolders _) (Nat.lt_of_le_of_lt (clr_le _ _) hA4.hs)
              have hwo := without_any (σ3.hs : Int) j W4 (by omega)
              rw [clr_eq σ3.hs j (by have := hA4.hs; omega) (by omega)] at hwo
              clear ho4 hA4
              go_wp2_with fail
              refine hwo.mono ?_
              rintro e w1 ⟨rfl, rfl⟩
              go_wp2
              go_roundg (dropLow hh)
              case rel => exact ⟨b3, σ3.tidy j, rfl, by rw [← HD.out], In3.done H2.out h8 hh0 HJ.out H3.out HT.out.2 HA5.out⟩
              case measure => exact drop_lt hh (by omega) hh0
            · obtain ⟨hd, hhd⟩ : ∃ hd, hd = σ3.qs[j].1 := ⟨_, rfl⟩
              have hq : σ3.qs[j] = (hd, m :: ms) := by rw [hhd, ← hms]
              have hmk := hA.mok (σ3.qs[j]) (List.getElem_mem hjq) m (by rw [hms]; simp)
              have HQ : Hid (σ3.qs[j] = (hd, m :: ms)) := hq
              have hpos := hi3 h3 hjq hq
              rw [hms] at hlen
              have hone : (0 : Int) < ((m :: ms).length : Nat) := by simp
              generalize (m :: ms).length = L at hlen hone
              have H3 : Hid (In3 x u ws R j σ1 σ2 gk b3 wr σ3) := h3
              have HA : Hid (Al x wr false σ3.rs.length u ws σ3) := hA
              have HMk : Hid (MOK x wr m) := hmk
              clear h3 hms hqe hhd hq hA hmk
              go_wp2_with fail
              refine hlen.mono ?_
              rintro e w1 ⟨rfl, q, rfl⟩
              have HA2 : Hid (Al x (wr.drewN q) false σ3.rs.length u ws σ3) := HA.out.drewN q
              have HMk2 : Hid (MOK x (wr.drewN q) m) := HMk.out.keep ((Fr.refl _ _ _ _).drewN q)
              generalize wr.drewN q = W2 at HA2 HMk2 ⊢
              go_wp2_with fail
              refine (at_al HA2.out j hjq (by rw [HQ.out])).mono ?_
              rintro e W3 ⟨rfl, hA3, hf3⟩
              have HA3 : Hid (Al x W3 false σ3.rs.length u ws σ3) := hA3
              have HMk3 : Hid (MOK x W3 m) := HMk2.out.keep hf3
              clear hA3 hf3
              go_wp2_with fail
              refine (deliverable_al HA3.out HMk3.out).mono ?_
              rintro e W4 ⟨rfl, hA4, hf4⟩
              have HA4 : Hid (Al x W4 false σ3.rs.length u ws σ3) := hA4
              clear hA4 hf4
              cases hmay : may x σ3 m
              · have hlen4 := len_al HA4.out j hjq
                have HT : Hid (σ3.tidy j = σ3 ∧ dr x j (σ3.q j).2 σ3 = σ3) := by
                  have e : (σ3.q j).2 = m :: ms := by rw [σ3.q_eq j hjq, HQ.out]
                  refine ⟨by unfold PS.tidy; rw [e]; rfl, ?_⟩
                  rw [e]
                  show (if may x σ3 m then _ else σ3) = σ3
                  rw [hmay]
                  rfl
                rw [HQ.out] at hlen4
                have hne : (((m :: ms).length : Nat) : Int) ≠ 0 := by simp; omega
                simp only at hlen4
                generalize (m :: ms).length = L4 at hlen4 hne
                clear hmay
                go_wp2_with fail
                refine hlen4.mono ?_
                rintro e w1 ⟨rfl, q', rfl⟩
                have HA5 : Hid (Al x (W4.drewN q') false (σ3.tidy j).rs.length u ws (σ3.tidy j)) := by
                  rw [HT.out.1]
                  exact HA4.out.drewN q'
                clear hlen4
                generalize W4.drewN q' = W5 at HA5 ⊢
                go_wp2
                go_roundg (dropLow hh)
                case rel => exact ⟨b3, σ3.tidy j, rfl, by rw [← HD.out], In3.done H2.out h8 hh0 HJ.out H3.out HT.out.2 HA5.out⟩
                case measure => exact drop_lt hh (by omega) hh0
              · have HMay : Hid (may x σ3 m = true) := hmay
                clear hmay
                go_wp2_with fail
                refine (pop_al HA4.out j hjq HQ.out).mono ?_
                rintro e W5 ⟨rfl, hA5, hM5⟩
                have HA5 : Hid (Al x W5 false σ3.rs.length u ws { σ3 with qs := σ3.qs.set j (hd + 1, ms) }) := hA5
                have HM5 : Hid (MOK x W5 m) := hM5
                clear hA5 hM5
                simp only [Msg.arr, msgA]
                go_upto_region 11 with fail
                obtain ⟨W6, hW6⟩ : ∃ W6, W6 = W5.alloc (.cells m.arr 32) := ⟨_, rfl⟩
                have hA6 : Al x W6 false σ3.rs.length u ws { σ3 with qs := σ3.qs.set j (hd + 1, ms) } := by rw [hW6]; exact HA5.out.alloc _ _ (by simp)
                have hM6 : W6.heap[W5.heap.size]? = some (.cells m.arr 32 (0, 0)) := by rw [hW6]; exact heap_alloc_new _ _
                have hK6 : MOK x W6 m := by rw [hW6]; exact HM5.out.keep ((Fr.refl _ _ _ _).alloc _)
                simp only [Msg.arr, msgA] at hW6
                rw [← hW6]
                generalize W5.heap.size = M at hM6 ⊢
                obtain ⟨l6, scr6, ho6⟩ := hA6.ob
                have c12 : W6.cell? ⟨x.O, 12, none⟩ = some (.int .i64 σ3.hold) := ho6.at 12
                have f12 := ho6.free 12
                have hp1 := hpos.1
                have e12 : ((σ3.hold - 1 : Nat) : Int) = (σ3.hold : Int) - 1 := by omega
                have hA7 : Al x (W6.setCell ⟨x.O, 12, none⟩ (.int .i64 (σ3.hold - 1 : Nat))) false σ3.rs.length u ws { σ3 with hold := σ3.hold - 1, qs := σ3.qs.set j (hd + 1, ms) } := hA6.cell (hs' := σ3.hs) (fun l scr ho => ho.setHolding _) hA6.hs
                have hOM : M ≠ x.O := by
                  rintro e
                  unfold Ob at ho6
                  rw [← e, hM6] at ho6
                  simp at ho6
                have hM7 : (W6.setCell ⟨x.O, 12, none⟩ (.int .i64 (σ3.hold - 1 : Nat))).heap[M]? = some (.cells m.arr 32 (0, 0)) := (Below.heap_setCell _ _ _ _ hOM).trans hM6
                have hK7 : MOK x (W6.setCell ⟨x.O, 12, none⟩ (.int .i64 (σ3.hold - 1 : Nat))) m := hK6.fr (S := [x.O]) (T := []) (A := [57]) ((Fr.refl _ _ _ _).setCell ho6 _ hA6.st.bO (.inl (by simp))) (fun g hg => by
                  simp only [List.mem_cons, List.not_mem_nil, or_false] at hg
                  subst hg
                  exact ⟨_, _, _, ho6, by simp⟩) (by simp) (by simp)
                rw [e12] at hA7 hM7 hK7
                clear hW6 hA6 hM6 hK6 ho6
                go_upto_region 12 with fail
                generalize W6.setCell ⟨x.O, 12, none⟩ (.int .i64 ((σ3.hold : Int) - 1)) = W7 at hA7 hM7 hK7 ⊢
                clear c12 f12 e12
                have HA7 : Hid (Al x W7 false σ3.rs.length u ws { σ3 with hold := σ3.hold - 1, qs := σ3.qs.set j (hd + 1, ms) }) := hA7
                have HM7 : Hid (W7.heap[M]? = some (.cells m.arr 32 (0, 0))) := hM7
                have HK7 : Hid (MOK x W7 m) := hK7
                clear hA7 hK7
                have hc := box_cells hM7
                obtain ⟨m0, m1, m2, m3, m4, m5, m6, m7⟩ := hc
                clear hM7
                go_wp2_with fail
                refine (deliver_al HA7.out HK7.out (by omega)).mono ?_
                rintro e W8 ⟨rfl, hA8, hkeep⟩
                have hM8 := hkeep M _ HM7.out
                have HA8 : Hid (Al x W8 false (σ3.rs.length + 1) u ws { σ3 with hold := σ3.hold - 1, qs := σ3.qs.set j (hd + 1, ms), ds := σ3.ds.set m.p m.q }) := hA8
                clear hA8 hkeep m0 m1 m2 m3 m4 m5 m6 m7
                obtain ⟨m0, m1, m2, m3, m4, m5, m6, m7⟩ := box_cells hM8
                clear hM8
                go_wp2_with fail
                refine (hback σ3.rs m W8 HA8.out.cb (by omega)).mono ?_
                intro e W9 hp9
                have hA9 := HA8.out.record hp9
                obtain ⟨rfl, _⟩ := hp9
                have hgo : ({ hs := σ3.hs, hold := σ3.hold - 1, ds := σ3.ds.set m.p m.q, qs := σ3.qs.set j (hd + 1, ms), rs := σ3.rs ++ [(m.p, m.q)] } : PS) = σ3.go j m ms := by
                  unfold PS.go
                  rw [σ3.q_eq j hjq, HQ.out]
                have HA9 : Hid (Al x W9 false (σ3.rs.length + 1) u ws (σ3.go j m ms)) := hgo ▸ hA9
                clear hA9 hgo m0 m1 m2 m3 m4 m5 m6 m7
                go_wp2
                go_roundg ms.length
                case rel => exact ⟨true, σ3.go j m ms, rfl, (H3.out.go hjq HQ.out HMay.out HA9.out).2⟩
                case measure => exact (H3.out.go hjq HQ.out HMay.out HA9.out).1
    · have HS : Hid (St x u ws R wr (rel x σ)) := hs1
      clear hs1 ho0 c26 h
      go_wp2
      go_end0
      exact ⟨rfl, HS.out⟩

end Go.Proofs.YbulkbobqFmt
