/-
  LawS3240BHeldUntilDep's walk.
-/
import Derived.Test.YbulkbobqFmtPlain4
namespace Go.Proofs.YbulkbobqFmt
open Go.RowKit

set_option maxRecDepth 100000 in
set_option maxHeartbeats 4000000 in
theorem law4 (a b : Nat) (fifo : Bool) (w : World) (ha : a < 256) (hb : b < 256) (hT : Tab w) :
    Calls Ybaf.prog 4 #[.int .u8 a, .int .u8 b, .bool fifo] w fun e w' => e = .returned (.bool true) ∧ Below w.heap.size w w' := by
  have hpos : 0 < w.heap.size := World.block_lt_of_cell? _ _ (hT 0 (by omega))
  have hlog : LogOK w.heap.size w := by
    intro g cur fr hg hh
    have := (Array.getElem?_eq_some_iff.1 hh).1
    omega
  obtain ⟨k, hk1, hk8, ek⟩ : ∃ k : Nat, 1 ≤ k ∧ k ≤ 8 ∧ 1 + (a : Int) % 8 = k := ⟨1 + a % 8, by omega, by omega, by omega⟩
  obtain ⟨n, hn12, en⟩ : ∃ n : Nat, n < 12 ∧ (b : Int) % 12 = n := ⟨b % 12, by omega, by omega⟩
  go_enter Ybaf.func4, Ybaf.ntmps4
  go_upto_if 23 with fail
  simp only [en]
  clear ek en
  go_cut [9] from 24 to 25 (fun p wd => ∃ s : OS, p = .pointer (some ⟨w.heap.size, 0, none⟩) ∧ s.self = 0 ∧ s.n = 3 ∧ Fresh w.heap.size w.heap.size s wd fifo ∧ Fr w.heap.size [] [] w wd)
  case first =>
    cases fifo
    · go_wp2_with fail
      refine (new_any w.heap.size 3 0 (by omega) (by omega) (by omega) w (Nat.le_refl _) hlog).mono ?_
      rintro e w1 ⟨rfl, ⟨s, s1, s2, s3⟩, hf⟩
      have HP : Hid (s.self = 0 ∧ s.n = 3 ∧ Fresh w.heap.size w.heap.size s w1 false ∧ Fr w.heap.size [] [] w w1) := ⟨s1, s2, s3, hf⟩
      clear s1 s2 s3 hf
      go_wp2
      go_meet
      exact ⟨s, rfl, HP.out⟩
    · go_wp2_with fail
      refine (newFifo_any w.heap.size 3 0 (by omega) (by omega) (by omega) w (Nat.le_refl _) hlog).mono ?_
      rintro e w1 ⟨rfl, ⟨s, s1, s2, s3⟩, hf⟩
      have HP : Hid (s.self = 0 ∧ s.n = 3 ∧ Fresh w.heap.size w.heap.size s w1 true ∧ Fr w.heap.size [] [] w w1) := ⟨s1, s2, s3, hf⟩
      clear s1 s2 s3 hf
      go_wp2
      go_meet
      exact ⟨s, rfl, HP.out⟩
  case rest =>
  obtain ⟨s, rfl, s1, s2, s3, hf⟩ := hcut
  have HS : Hid (s.self = 0 ∧ s.n = 3 ∧ Fresh w.heap.size w.heap.size s wc fifo ∧ Fr w.heap.size [] [] w wc) := ⟨s1, s2, s3, hf⟩
  clear s1 s2 s3 hf
  go_upto_region 10 with fail
  obtain ⟨A, hA⟩ : ∃ A : Msg, A = { p := 1, q := 1, t := 3, e := some ⟨wc.heap.size + 1, 0, none⟩, ml := 1 } := ⟨_, rfl⟩
  obtain ⟨x, hx⟩ : ∃ x : Cx, x = { base := w.heap.size, O := w.heap.size, C := wc.heap.size, s := s, fifo := fifo, al := fun m => if m.ml = 0 then [] else [(2, (k : Int), 1)], w0 := w } := ⟨_, rfl⟩
  obtain ⟨W, hW⟩ : ∃ W, W = (((wc.alloc (.cells #[.slice none 0 0] 25)).alloc (.cells #[.int .i64 2, .int .u64 k, .int .u64 1] 46)).alloc (.cells A.arr 32)) := ⟨_, rfl⟩
  have HW : Hid (Al x W false (σ0 3).rs.length (.slice none 0 0) [] (σ0 3) ∧ MOK x W A ∧ W.heap[wc.heap.size + 1 + 1]? = some (.cells A.arr 32 (0, 0))) := by
    obtain ⟨s1, s2, s3, hf⟩ := HS.out
    have hwc : w.heap.size ≤ wc.heap.size := hf.size
    have hfW : Fr w.heap.size [] [] wc W := by rw [hW]; exact (((Fr.refl _ _ _ _).alloc _).alloc _).alloc _
    have hlW : LogOK w.heap.size wc → LogOK w.heap.size W := fun hl => by rw [hW]; exact ((hl.alloc _ _ (fun e => by simp at e)).alloc _ _ (fun e => by simp at e)).alloc _ _ (fun e => by simp at e)
    have hC : W.heap[wc.heap.size]? = some (.cells #[.slice none 0 0] 25 (0, 0)) := by
      rw [hW]
      exact (Below.heap_alloc _ _ _ (by simp; omega)).trans ((Below.heap_alloc _ _ _ (by simp)).trans (heap_alloc_new wc _))
    have hE : W.heap[wc.heap.size + 1]? = some (.cells #[.int .i64 2, .int .u64 k, .int .u64 1] 46 (0, 0)) := by
      rw [hW]
      refine (Below.heap_alloc _ _ _ (by simp)).trans ?_
      have := heap_alloc_new (wc.alloc (.cells #[.slice none 0 0] 25)) (.cells #[.int .i64 2, .int .u64 k, .int .u64 1] 46)
      simpa using this
    have hM : W.heap[wc.heap.size + 1 + 1]? = some (.cells A.arr 32 (0, 0)) := by
      rw [hW]
      have := heap_alloc_new ((wc.alloc (.cells #[.slice none 0 0] 25)).alloc (.cells #[.int .i64 2, .int .u64 k, .int .u64 1] 46)) (.cells A.arr 32)
      simpa using this
    refine ⟨?_, ?_, hM⟩
    · have h3 : s.n = 3 := s2
      have := Al.start x W (by rw [hx]; exact s3.fr hfW hlW) (by rw [hx]; exact hC) (by rw [hx]; exact hwc) (hT.fr (hf.trans hfW) hpos hpos) (by rw [hx]; exact hpos) (by rw [hx]; exact (hf.trans hfW).below (Nat.le_refl _) (Nat.le_refl _))
      have e : x.s.n = 3 := by rw [hx]; exact h3
      rw [e] at this
      exact this
    · have hal : x.al A = [(2, (k : Int), 1)] := by rw [hx, hA]; rfl
      have hn3 : x.s.n = 3 := by rw [hx]; exact s2
      refine ⟨by rw [hal, hA]; rfl, by rw [hA]; exact Nat.le_refl _, ?_, ?_, by rw [hn3, hA]; show 1 < 3; omega, by rw [hA]; simp⟩
      · rw [hal, hA]
        refine ⟨?_, some ⟨wc.heap.size + 1, 0, none⟩, 1, rfl, Nat.le_refl _, .inr ⟨wc.heap.size + 1, 0, _, _, rfl, hE, fun j hj => ?_⟩⟩
        · intro e he
          simp at he
          subst he
          simp
          omega
        · obtain rfl : j = 0 := by simp at hj; omega
          refine ⟨?_, ?_, ?_⟩ <;> simp [World.cell?, hE]
      · rw [hal, hn3]
        intro e he
        simp at he
        subst he
        simp
  have HX : Hid (x.fifo = fifo ∧ x.s.self = 0 ∧ x.s.n = 3 ∧ x.al A = [(2, (k : Int), 1)] ∧ (∀ i, x.al (mTwo i) = []) ∧ A.p = 1 ∧ A.q = 1) := by
    obtain ⟨s1, s2, _⟩ := HS.out
    rw [hx, hA]
    exact ⟨rfl, s1, s2, rfl, fun _ => rfl, rfl, rfl⟩
  have hxO : x.O = w.heap.size := by rw [hx]
  have hxC : x.C = wc.heap.size := by rw [hx]
  have hxb : x.base = w.heap.size ∧ x.w0 = w := by rw [hx]; exact ⟨rfl, rfl⟩
  have HXb : Hid (x.base = w.heap.size ∧ x.w0 = w) := hxb
  rw [← hxO, ← hxC]
  have hcells := box_cells HW.out.2.2
  rw [hA] at hcells
  rw [hxC.symm] at hcells hA
  have hW' : W = (((wc.alloc (.cells #[.slice none 0 0] 25)).alloc (.cells #[.int .i64 2, .int .u64 k, .int .u64 1] 46)).alloc (.cells #[.int .i64 1, .int .u64 1, .int .u64 3, .slice (some ⟨x.C + 1, 0, none⟩) 1 1, .int .u64 0, .slice none 0 0, .slice none 0 0, .bool false] 32)) := by
    rw [hW, hA]
    rfl
  rw [← hW']
  clear hW hW' hx HS hT hlog hxb
  obtain ⟨M, hMe⟩ : ∃ M, M = x.C + 1 + 1 := ⟨_, rfl⟩
  rw [← hMe] at hcells ⊢
  obtain ⟨m0, m1, m2, m3, m4, m5, m6, m7⟩ := hcells
  replace m0 : W.cell? ⟨M, 0, none⟩ = some (.int .i64 1) := m0
  dsimp only at m1 m2 m3
  clear hMe hxO hxC
  have HA : Hid (A = { p := 1, q := 1, t := 3, e := some ⟨x.C + 1, 0, none⟩, ml := 1 }) := hA
  clear hA
  have hf4 := first4 x fifo k A HX.out.1 HX.out.2.1 HX.out.2.2.2.1 HX.out.2.2.2.2.2.1 HX.out.2.2.2.2.2.2 hk1
  have hcall : Calls Ybaf.prog 8 #[.pointer (some ⟨x.O, 0, none⟩), .agg (msgA 1 1 3 (.slice (some ⟨x.C + 1, 0, none⟩) 1 1)), .func (.func 14) #[] #[.pointer (some ⟨x.C, 0, none⟩)]] W fun e w' => e = .returned (.tuple #[]) ∧ Al x w' false (takeF x false (σ0 3) A).rs.length (.slice none 0 0) [] (takeF x false (σ0 3) A) ∧ Inv (0 + 1) (takeF x false (σ0 3) A) := by
    have e : A.arr = msgA 1 1 3 (.slice (some ⟨x.C + 1, 0, none⟩) 1 1) := by rw [HA.out]; rfl
    rw [← e]
    exact take_any x 14 0 (.slice none 0 0) [] (back14 _ _ _) W false (σ0 3) A HW.out.1 ⟨rfl, rfl⟩ (by omega) HW.out.2.1 hf4.2.2
  go_wp2_with fail
  refine hcall.mono ?_
  rintro e W1 ⟨rfl, hA1, hI1⟩
  have HA1 : Hid (Al x W1 false (takeF x false (σ0 3) A).rs.length (.slice none 0 0) [] (takeF x false (σ0 3) A) ∧ Inv 1 (takeF x false (σ0 3) A)) := ⟨hA1, hI1⟩
  have HF4 : Hid (Ok4 fifo k 0 A (takeF x false (σ0 3) A) ∧ (takeF x false (σ0 3) A).rs = (if fifo = true then [(1, 1)] else [])) := ⟨hf4.1, hf4.2.1⟩
  clear hA1 hI1 hcall HW m0 m1 m2 m3 m4 m5 m6 m7 hf4
  generalize takeF x false (σ0 3) A = σ1 at HA1 HF4
  go_upto_if 36 with fail
  go_cut [13] from 37 to 40 (fun u wd => Al x wd false σ1.rs.length u σ1.rs σ1)
  case first =>
    cases fifo
    · have e : σ1.rs = ([] : List (Nat × Int)) := by simpa using HF4.out.2
      have h := HA1.out.1
      rw [← e] at h
      have HH : Hid (Al x W1 false σ1.rs.length (.slice none 0 0) σ1.rs σ1) := h
      clear e h
      go_wp2
      go_meet
      exact HH.out
    · have e : σ1.rs = [((1 : Nat), (1 : Int))] := by simpa using HF4.out.2
      go_wp2_with (first | (at_builtin; refine wpList_append_rec rfl (.tmp 37) (.tmp 39) rfl x W1 false _ (.slice none 0 0) [] σ1 1 1 HA1.out.1 (by simp) rfl rfl ?_))
      intro v' w7 g1
      have HH : Hid (Al x w7 false σ1.rs.length v' σ1.rs σ1) := by
        unfold Hid
        rw [e]
        exact g1
      clear e g1
      go_wp2
      go_meet
      exact HH.out
  case rest =>
  have HA2 : Hid (Al x wc false σ1.rs.length u13 σ1.rs σ1) := hcut
  have HI2 : Hid (Inv 1 σ1 ∧ Ok4 fifo k 0 A σ1) := ⟨HA1.out.2, HF4.out.1⟩
  clear hcut HA1 HF4
  obtain ⟨v, hC, hrec, _, hwant, _⟩ := HA2.out.cb
  have cC : wc.cell? ⟨x.C, 0, none⟩ = some v := by simp [World.cell?, hC]
  have hrl : σ1.rs.length ≤ 2000 := by have := HI2.out.1.2; omega
  have heq := equal_any x.base v u13 σ1.rs wc hrec hwant (by omega)
  clear hC hrec hwant
  go_wp2_with fail
  refine heq.mono ?_
  rintro e W2 ⟨rfl, q, rfl⟩
  have HA3 : Hid (Al x (wc.drewN q) false σ1.rs.length u13 σ1.rs σ1) := HA2.out.drewN q
  clear heq cC HA2
  generalize wc.drewN q = W2 at HA3 ⊢
  go_upto_region 16 with fail
  obtain ⟨l2, scr2, ho2⟩ := HA3.out.ob
  have hheld := held_any ho2
  clear ho2
  have HO : Hid (Ok4 fifo k 0 A σ1) := HI2.out.2
  go_cut [59] from 45 to 59 (fun v wd => v = .bool false ∧ wd = W2)
  case first =>
    cases fifo
    · have e : σ1.hold = 1 := by
        have := HO.out
        unfold Ok4 at this
        rw [if_neg (by simp; omega)] at this
        exact this.2.1
      rw [e] at hheld
      clear e
      go_wp2_with fail
      refine hheld.mono ?_
      rintro e w1 ⟨rfl, rfl⟩
      go_wp2
      go_meet
      exact ⟨rfl, rfl⟩
    · have e : σ1.hold = 0 := by
        have := HO.out
        unfold Ok4 at this
        rw [if_pos (.inl rfl)] at this
        exact this.2.1
      rw [e] at hheld
      clear e
      go_wp2_with fail
      refine hheld.mono ?_
      rintro e w1 ⟨rfl, rfl⟩
      go_wp2
      go_meet
      exact ⟨rfl, rfl⟩
  case rest =>
  obtain ⟨rfl, rfl⟩ := hcut
  clear hheld HO
  go_wp2_with fail
  go_loopw [13, 14] (fun u i wr => ∃ (j : Nat) (σ : PS) (uu : Value), uu = u ∧ i = .int .i64 j ∧ 1 ≤ j ∧ j ≤ n + 1 ∧ Al x wr false σ.rs.length uu σ.rs σ ∧ Inv j σ ∧ Ok4 fifo k (j - 1) A σ) (fun _ i _ => n + 1 - (intOf i).toNat)
  case atStart => exact ⟨1, σ1, _, rfl, rfl, Nat.le_refl _, by omega, HA3.out, HI2.out.1, HI2.out.2⟩
  case round =>
    obtain ⟨j, σ, uu, rfl, rfl, hj1, hjn, hA, hI, hO⟩ := hrel
    have HA4 : Hid (Al x wr false σ.rs.length uu σ.rs σ) := hA
    have HI4 : Hid (Inv j σ ∧ Ok4 fifo k (j - 1) A σ) := ⟨hI, hO⟩
    have hrl4 : σ.rs.length ≤ 1000 := by have := hI.2; omega
    clear hA hI hO HA3 HI2
    by_cases hjl : j ≤ n
    · have hs4 := step4j x fifo k j A σ HX.out.1 HX.out.2.1 HX.out.2.2.2.1 HX.out.2.2.2.2.2.1 HX.out.2.2.2.2.2.2 (HX.out.2.2.2.2.1 j) hj1 HI4.out.2
      have hcall : Calls Ybaf.prog 8 #[.pointer (some ⟨x.O, 0, none⟩), .agg #[.int .i64 2, .int .u64 j, .int .u64 5, .slice none 0 0, .int .u64 0, .slice none 0 0, .slice none 0 0, .bool false], .func (.func 14) #[] #[.pointer (some ⟨x.C, 0, none⟩)]] wr fun e w' => e = .returned (.tuple #[]) ∧ Al x w' false (takeF x false σ (mTwo j)).rs.length uu σ.rs (takeF x false σ (mTwo j)) ∧ Inv (j + 1) (takeF x false σ (mTwo j)) :=
        take_any x 14 j uu σ.rs (back14 _ _ _) wr false σ (mTwo j) HA4.out HI4.out.1 (by omega) (mTwo_ok x wr j (HX.out.2.2.2.2.1 j) HX.out.2.2.1 (by omega)) hs4.2.2
      have HS4 : Hid (Ok4 fifo k j A (takeF x false σ (mTwo j)) ∧ (takeF x false σ (mTwo j)).rs = σ.rs ++ [(2, (j : Int))] ++ (if fifo = false ∧ j = k then [(1, 1)] else [])) := ⟨hs4.1, hs4.2.1⟩
      clear hs4
      go_wp2_with fail
      refine hcall.mono ?_
      rintro e W5 ⟨rfl, hA5, hI5⟩
      have HA5 : Hid (Al x W5 false (takeF x false σ (mTwo j)).rs.length uu σ.rs (takeF x false σ (mTwo j)) ∧ Inv (j + 1) (takeF x false σ (mTwo j))) := ⟨hA5, hI5⟩
      clear hA5 hI5 hcall
      generalize takeF x false σ (mTwo j) = σ5 at HS4 HA5
      go_upto_region 23 with (first | (at_builtin; refine wpList_append_rec rfl (.tmp 71) (.tmp 75) rfl x W5 false _ uu σ.rs σ5 2 j HA5.out.1 (by omega) rfl rfl ?_; intro u6 W6 hA6))
      have HA6 : Hid (Al x W6 false σ5.rs.length u6 (σ.rs ++ [(2, (j : Int))]) σ5) := hA6
      clear hA6
      have HJ : Hid (∀ w' u' ws', Al x w' false σ5.rs.length u' ws' σ5 → ws' = σ5.rs → ∃ (j' : Nat) (σ' : PS) (uu' : Value), uu' = u' ∧ Value.int .i64 ((j : Int) + 1) = .int .i64 j' ∧ 1 ≤ j' ∧ j' ≤ n + 1 ∧ Al x w' false σ'.rs.length uu' σ'.rs σ' ∧ Inv j' σ' ∧ Ok4 fifo k (j' - 1) A σ') := by
        intro w' u' ws' h e
        rw [e] at h
        exact ⟨j + 1, σ5, u', rfl, by simp, by omega, by omega, h, HA5.out.2, HS4.out.1⟩
      cases fifo
      · by_cases hjk : j = k
        · have HE : Hid (σ5.rs = σ.rs ++ [(2, (j : Int))] ++ [(1, 1)]) := by
            have := HS4.out.2
            rw [if_pos ⟨rfl, hjk⟩] at this
            exact this
          subst hjk
          clear HS4
          go_wp2_with (first | (at_builtin; refine wpList_append_rec rfl (.tmp 84) (.tmp 86) rfl x W6 false _ u6 (σ.rs ++ [(2, (j : Int))]) σ5 1 1 HA6.out (by simp; omega) rfl rfl ?_))
          intro u7 W7 hA7
          have HA7 : Hid (∃ ws', ws' = σ5.rs ∧ Al x W7 false σ5.rs.length u7 ws' σ5) := ⟨_, by rw [HE.out]; simp, hA7⟩
          clear hA7
          go_wp2
          go_roundw
          case rel => obtain ⟨ws', e1, e2⟩ := HA7.out; exact HJ.out _ _ _ e2 e1
          case measure => simp [intOf]; omega
        · have HE : Hid (σ5.rs = σ.rs ++ [(2, (j : Int))]) := by
            have := HS4.out.2
            rw [if_neg (fun e => hjk e.2), List.append_nil] at this
            exact this
          have hjk2 : ¬ ((j : Int) = k) := by omega
          clear hjk HS4
          go_wp2
          go_roundw
          case rel => exact HJ.out _ _ _ HA6.out (by rw [HE.out])
          case measure => simp [intOf]; omega
      · have HE : Hid (σ5.rs = σ.rs ++ [(2, (j : Int))]) := by
          have := HS4.out.2
          rw [if_neg (fun e => by simp at e), List.append_nil] at this
          exact this
        clear HS4
        go_wp2
        go_roundw
        case rel => exact HJ.out _ _ _ HA6.out (by rw [HE.out])
        case measure => simp [intOf]; omega
    · obtain rfl : j = n + 1 := by omega
      have HO : Hid (Ok4 fifo k n A σ) := HI4.out.2
      obtain ⟨v, hC, hrec, _, hwant, _⟩ := HA4.out.cb
      have cC : wr.cell? ⟨x.C, 0, none⟩ = some v := by simp [World.cell?, hC]
      have heq := equal_any x.base v uu σ.rs wr hrec hwant (by omega)
      have hAq : ∀ q, Al x (wr.drewN q) false σ.rs.length uu σ.rs σ := fun q => HA4.out.drewN q
      have HLow : Hid (∀ q, Below w.heap.size w (wr.drewN q)) := by
        intro q
        have := (HA4.out.drewN q).low
        rw [HXb.out.1, HXb.out.2] at this
        exact this
      have hcast : ((n + 1 : Nat) : Int) = (n : Int) + 1 := by omega
      have hlt : ¬ ((n : Int) + 1 ≤ n) := by omega
      clear hC hrec hwant hjl hj1 hjn
      rw [hcast]
      go_wp2_with fail
      refine heq.mono ?_
      rintro e W2 ⟨rfl, q, rfl⟩
      have hA5 := hAq q
      have HL5 : Hid (Below w.heap.size w (wr.drewN q)) := HLow.out q
      clear heq cC HA4 hAq HLow
      generalize wr.drewN q = W5 at hA5 HL5 ⊢
      obtain ⟨l5, scr5, ho5⟩ := hA5.ob
      have hheld := held_any ho5
      have hd1 := delivered_any ho5 hA5.D hA5.dl 1 (by rw [HX.out.2.2.1]; omega)
      have hd2 := delivered_any ho5 hA5.D hA5.dl 2 (by rw [HX.out.2.2.1]; omega)
      by_cases hrel : fifo = true ∨ k ≤ n
      · obtain ⟨o1, o2, o3, o4⟩ : σ.hs = 0 ∧ σ.hold = 0 ∧ σ.ds = [0, 1, (n : Int)] ∧ True := by
          have := HO.out
          unfold Ok4 at this
          rw [if_pos hrel] at this
          exact ⟨this.1, this.2.1, this.2.2.1, trivial⟩
        rw [o2] at hheld
        rw [o3] at hd1 hd2
        simp only [List.getD_cons_succ, List.getD_cons_zero] at hd1 hd2
        clear o1 o2 o3 o4 ho5 hA5
        cases fifo
        · have hkn : (k : Int) ≤ n := by rcases hrel with h | h; simp at h; omega
          clear hrel
          go_wp2_with fail
          refine hheld.mono ?_
          rintro e w1 ⟨rfl, rfl⟩
          go_wp2_with fail
          refine hd1.mono ?_
          rintro e w2 ⟨rfl, rfl⟩
          go_wp2_with fail
          refine hd2.mono ?_
          rintro e w3 ⟨rfl, rfl⟩
          go_wp2
          go_ret
          exact ⟨rfl, HL5.out⟩
        · clear hrel
          go_wp2_with fail
          refine hheld.mono ?_
          rintro e w1 ⟨rfl, rfl⟩
          go_wp2_with fail
          refine hd1.mono ?_
          rintro e w2 ⟨rfl, rfl⟩
          go_wp2_with fail
          refine hd2.mono ?_
          rintro e w3 ⟨rfl, rfl⟩
          go_wp2
          go_ret
          exact ⟨rfl, HL5.out⟩
      · obtain ⟨o1, o2, o3⟩ : σ.hs = 2 ∧ σ.hold = 1 ∧ σ.ds = [0, 0, (n : Int)] := by
          have := HO.out
          unfold Ok4 at this
          rw [if_neg hrel] at this
          exact ⟨this.1, this.2.1, this.2.2.1⟩
        rw [o2] at hheld
        rw [o3] at hd1 hd2
        simp only [List.getD_cons_succ, List.getD_cons_zero] at hd1 hd2
        clear o1 o2 o3 ho5 hA5
        simp only [not_or, Bool.not_eq_true] at hrel
        obtain ⟨rfl, hkn⟩ := hrel
        have hkn2 : (n : Int) < k := by omega
        clear hkn
        go_wp2_with fail
        refine hheld.mono ?_
        rintro e w1 ⟨rfl, rfl⟩
        go_wp2_with fail
        refine hd1.mono ?_
        rintro e w2 ⟨rfl, rfl⟩
        go_wp2_with fail
        refine hd2.mono ?_
        rintro e w3 ⟨rfl, rfl⟩
        go_wp2
        go_ret
        exact ⟨rfl, HL5.out⟩

end Go.Proofs.YbulkbobqFmt
