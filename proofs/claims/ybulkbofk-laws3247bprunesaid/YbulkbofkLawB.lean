/- Law B: the walk. -/
import Derived.Test.YbulkbofkPre2
namespace Go.Proofs.Ybulkbofk
open Go.RowKit

set_option maxRecDepth 100000 in
set_option maxHeartbeats 4000000 in
theorem lawB (a0 : Option Addr) (n cap0 : Nat) (now : Int) (w : World) (hsrc : SrcB w a0 n) (hn : n ≤ 9223372036854775807) (hnow : -9223372036854775808 ≤ now ∧ now ≤ 9223372036854775807) :
    Calls Yba.prog 4 #[.slice a0 n cap0, .int .i64 now] w fun e w' => e = .returned (.bool true) ∧ Below w.heap.size w w' := by
  have HSRC : Hid (SrcB w a0 n) := hsrc
  have HNOW : Hid (-9223372036854775808 ≤ now ∧ now ≤ 9223372036854775807) := hnow
  clear hsrc hnow
  by_cases hbig : 1024 < n
  · have hbig2 : (1024 : Int) < n := by omega
    go_enter Yba.func4, Yba.ntmps4
    go_wp2
    go_ret
    exact ⟨rfl, Below.refl _ _⟩
  · have hbig2 : ¬ ((1024 : Int) < n) := by omega
    go_enter Yba.func4, Yba.ntmps4
    go_wp2_with fail
    go_loopw [5, 39] (fun _ i wr => wr = w ∧ ∃ k : Nat, i = .int .i64 k ∧ k ≤ n ∧ ∀ j g o x hs lp a' c', j < k → a0 = some ⟨g, o, none⟩ → ElS w g o j x hs lp a' c' → hs.length ≤ 256) (fun _ i _ => n - (intOf i).toNat)
    case atStart => exact ⟨by trivial, 0, rfl, Nat.zero_le _, fun j g o x hs lp a' c' hj => absurd hj (Nat.not_lt_zero _)⟩
    case round =>
      obtain ⟨hwr, k, rfl, hk, hall⟩ := hrel
      obtain rfl : w = wr := hwr.symm
      by_cases hkn : k < n
      · have hkn2 : (k : Int) < n := by omega
        obtain ⟨g, o, rfl, hg, hel⟩ := HSRC.out (by omega)
        obtain ⟨x, hs, lp, a', c', hE⟩ := hel k hkn
        have e0 := hE.c1
        have hl := hE.hl
        by_cases hm : 256 < hs.length
        · clear hE hel hall
          generalize hs.length = m at e0 hl hm
          have hm2 : (256 : Int) < m := by omega
          go_wp2_with fail
          go_ret
          exact ⟨rfl, Below.refl _ _⟩
        · have HALL : Hid (∀ j g' o' x hs lp a' c', j < k + 1 → some (⟨g, o, none⟩ : Addr) = some ⟨g', o', none⟩ → ElS w g' o' j x hs lp a' c' → hs.length ≤ 256) := fun j g' o' x2 hs2 lp2 a2 c2 hj he hE2 => by
            by_cases ej : j = k
            · subst ej
              obtain ⟨rfl, rfl⟩ : g = g' ∧ o = o' := by simpa using he
              have := hE2.c1
              rw [e0] at this
              have : hs.length = hs2.length := by
                injection this with this
                injection this
              omega
            · exact hall j g' o' x2 hs2 lp2 a2 c2 (by omega) he hE2
          clear hE hel hall
          generalize hs.length = m at e0 hl hm
          have hm2 : ¬ ((256 : Int) < m) := by omega
          go_wp2_with fail
          go_roundw
          case rel => exact ⟨by trivial, k + 1, rfl, by omega, HALL.out⟩
          case measure => simp [intOf]; omega
      · obtain rfl : k = n := by omega
        have HALL : Hid (∀ j g o x hs lp a' c', j < k → a0 = some ⟨g, o, none⟩ → ElS w g o j x hs lp a' c' → hs.length ≤ 256) := hall
        clear hall hn
        go_upto_region 12 with fail
        have hP := P1.start w
        obtain ⟨W, hW⟩ : ∃ W, W = ((w.alloc (.cells #[.bool false, .bool false, .bool false, .bool false] 62)).alloc (.cells #[.slice none 0 0, .slice none 0 0, .slice none 0 0, .slice none 0 0] 63)).alloc (.cells #[.int .i64 0, .int .i64 0, .int .i64 0, .int .i64 0] 64) := ⟨_, rfl⟩
        rw [← hW] at hP ⊢
        clear hW
        obtain ⟨B, hB⟩ : ∃ B, B = w.heap.size := ⟨_, rfl⟩
        rw [← hB] at hP ⊢
        rw [show B + 1 + 1 = B + 2 from rfl]
        have HP : Hid (∃ I, P1 w W B I) := ⟨_, hP⟩
        have HB : Hid (B = w.heap.size) := hB
        clear hP hB
        obtain ⟨i0, hi, hz0, hz1, hz2⟩ := info_parts Yba.info9
        have HIN : Hid (Yba.prog.info? 9 = some i0 ∧ i0.zero = some (.string ByteArray.empty) ∧ i0.size = 1 ∧ i0.bytes = 16) := ⟨hi, hz0, hz1, hz2⟩
        clear hi hz0 hz1 hz2
        go_wp2_with fail
        go_loopw [9, 52] (fun _ i wk => ∃ m : Nat, i = .int .i64 m ∧ m ≤ k ∧ ∃ I, P1 w wk B I) (fun _ i _ => k - (intOf i).toNat)
        case atStart => exact ⟨0, rfl, Nat.zero_le _, HP.out⟩
        case round =>
          obtain ⟨m, rfl, hm, I, hP⟩ := hrel
          obtain ⟨wk, hwk⟩ : ∃ wk, wk = wr := ⟨wr, rfl⟩
          subst hwk
          clear HP
          by_cases hmk : m < k
          · have hmk2 : (m : Int) < k := by omega
            obtain ⟨g, o, rfl, hg, hel⟩ := HSRC.out (by omega)
            obtain ⟨x, hs, lp, a', c', hE0⟩ := hel m hmk
            have hlen : hs.length ≤ 256 := HALL.out m g o x hs lp a' c' hmk rfl hE0
            have HE : Hid (∀ w', Below B w w' → ElS w' g o m x hs lp a' c') := fun w' hb => hE0.below hg (HB.out ▸ hb)
            have hE := HE.out wk hP.b
            have e0 := hE.c0
            have e1 := hE.c1
            have hmod : ((x : Int)).tmod 4 = ((x % 4 : Nat) : Int) := rfl
            have hv4 : x % 4 < 4 := Nat.mod_lt _ (by decide)
            generalize x % 4 = v at hmod hv4
            have HM : Hid (P1 w wk B I ∧ ElS wk g o m x hs lp a' c' ∧ v < 4 ∧ hs.length ≤ 256) := ⟨hP, hE, hv4, hlen⟩
            obtain ⟨hi, hz0, hz1, hz2⟩ := HIN.out
            have hx := hE.hx
            clear hel hE hP hE0
            generalize hs.length = hl at e1 hlen
            go_upto_region 17 with (at_make; refine wpList_make_own _ rfl _ _ 24 rfl wk.heap.size 9 i0 (.string ByteArray.empty) 1 Yba.underlying24 hi hz0 hz1 .i64 .i64 _ hl rfl rfl (by simp) (by rw [hz2]; omega) (by unfold maxLen; omega) (Nat.le_refl _) ?_; intro w1 ho1 hg1)
            have b1 : Below wk.heap.size wk w1 := grown_below hg1 (Nat.le_refl _) (by simp)
            have HC : Hid (B ≤ wk.heap.size ∧ B + 3 ≤ wk.heap.size) := ⟨by have := HM.out.1.z; omega, HM.out.1.z⟩
            have hE1 := HE.out w1 (HM.out.1.b.trans (below_le b1 HC.out.1))
            have HO1 : Hid (w1.ownsRow wk.heap.size 9 1 (.slice (some ⟨wk.heap.size, 0, none⟩) 0 hl) 0 [] ∧ Below wk.heap.size wk w1) := ⟨ho1, b1⟩
            have HHL : Hid (hl = hs.length) := by
              have := hE1.c1
              rw [(World.cell?_of_block (a := ⟨g, o + m * 3 + 1, none⟩) (b1.block g (by have := HC.out; have := HB.out; omega)))] at this
              rw [e1] at this
              injection this with this
              injection this
            have f1 := hE1.c1
            rw [← HHL.out] at f1
            clear e0 e1 hg1 ho1 b1 hE1
            go_wp2_with fail
            clear f1
            go_loopw [11, 13, 75] (fun u _ i wx => ∃ (j : Nat) (q : List Nat), i = .int .i64 j ∧ j ≤ hl ∧ q.length = j ∧ (∀ h ∈ q, h < 3) ∧ wx.ownsRow wk.heap.size 9 1 u j (q.map hv) ∧ Below wk.heap.size wk wx) (fun _ _ i _ => hl - (intOf i).toNat)
            case atStart => exact ⟨0, [], rfl, Nat.zero_le _, rfl, by simp, HO1.out.1, HO1.out.2⟩
            case round =>
              obtain ⟨j, q, rfl, hj, hqj, hq3, hown, hbx⟩ := hrel
              clear HO1
              by_cases hjl : j < hl
              · have hjl2 : (j : Int) < hl := by omega
                have hEx := HE.out wr (HM.out.1.b.trans (below_le hbx HC.out.1))
                obtain ⟨g', o', rfl, hg', hcx⟩ := hEx.hc j (by have := HHL.out; omega)
                have hy : hs.getD j 0 ≤ 255 := by
                  apply hEx.hh
                  rw [List.getD_eq_getElem?_getD, List.getElem?_eq_getElem (by have := HHL.out; omega)]
                  exact List.getElem_mem _
                generalize hs.getD j 0 = y at hcx hy
                have hmody : ((y : Int)).tmod 3 = ((y % 3 : Nat) : Int) := rfl
                have hy3 : y % 3 < 3 := Nat.mod_lt _ (by decide)
                generalize y % 3 = z at hmody hy3
                obtain ⟨hi, hz0, hz1, hz2⟩ := HIN.out
                have hsz := hbx.size
                clear hEx
                go_wp2_with (first
                  | (go_at_call 10; refine (host_s z hy3 _).mono ?_; rintro e w' ⟨rfl, hw'⟩; obtain rfl : wr = w' := hw'.symm)
                  | (at_builtin; (refine wpList_append_own _ rfl _ _ 24 rfl wk.heap.size 9 i0 (.string ByteArray.empty) 1 16 Yba.underlying24 hi hz0 hz1 hz2 rfl (by decide) _ _ _ rfl (hown.alloc _) ⟨wr.heap.size, 0, none⟩ 1 1 [.string (hn z)] rfl rfl (cell_one_new _ _ _) (fun x hx => by simp at hx; subst hx; rfl) (by unfold maxLen; omega) (by omega) (by simp; omega) ?_; intro v' w3 hown' hgrow3 hnil3)))
                refine ⟨⟨j + 1, q ++ [z], by simp, by omega, by simp [hqj], fun h hh => ?_, ?_, ?_⟩, by simp [intOf]; omega⟩
                · rcases List.mem_append.1 hh with hh | hh
                  · exact hq3 h hh
                  · rw [List.mem_singleton.1 hh]; exact hy3
                · rw [List.map_append]
                  exact hown'
                · exact (hbx.alloc hsz _).trans (grown_below hgrow3 (by simp; omega) (fun i hi' => owns_block hown i hi'))
              · obtain rfl : j = hl := by omega
                clear hjl hj
                have hP2 : P1 w wr B I := HM.out.1.kept hbx
                have hE2 := HE.out wr hP2.b
                have HSL : Hid (SlL wr (B + 3) u11 q ∧ (∀ h ∈ q, h < 3) ∧ q.length ≤ 256) := by
                  have h1 : SlL wr wk.heap.size u11 q := SlL.ofOwns (hqj.symm ▸ hown)
                  exact ⟨h1.mono HC.out.2, hq3, by omega⟩
                have hv4 := HM.out.2.2.1
                obtain ⟨a1, f1⟩ := hP2.h.cell hv4
                obtain ⟨a2, f2⟩ := hP2.s.cell hv4
                obtain ⟨a3, f3⟩ := hP2.l.cell hv4
                have e2 := hE2.c2
                have hgB : g < B := by have := HB.out; omega
                have HP2 : Hid (P1 w wr B I ∧ (-9223372036854775808 ≤ lp ∧ lp ≤ 9223372036854775807)) := ⟨hP2, hE2.hlp⟩
                have hv42 : (v : Int) < 4 := by omega
                obtain ⟨au, cu, rfl⟩ : ∃ au cu, u11 = .slice au q.length cu := by
                  obtain ⟨au, cu, e, _⟩ := HSL.out.1
                  exact ⟨au, cu, e⟩
                clear hP2 hE2 hown hq3 hqj hbx
                go_wp2_with fail
                exact ⟨⟨m + 1, by simp, by omega, _, HP2.out.1.step hv4 HSL.out.1 HSL.out.2.1 HSL.out.2.2 HP2.out.2⟩, by simp [intOf]; omega⟩
          · obtain rfl : m = k := by omega
            have HP1 : Hid (P1 w wk B I) := hP
            clear hP HSRC HALL HIN
            go_upto_region 27 with fail
            go_wp2_with fail
            refine (newSubs2 wk).mono ?_
            rintro e w2 ⟨rfl, hP2⟩
            obtain ⟨C, hC⟩ : ∃ C, C = wk.heap.size := ⟨_, rfl⟩
            rw [← hC]
            have HP2 : Hid (P2 wk w2 C I (upto I 0) (Oof I (upto I 0))) := hC ▸ hP2 I
            have HC : Hid (C = wk.heap.size) := hC
            clear hC hP2
            go_wp2_with fail
            go_loopw [16] (fun i wx => ∃ v : Nat, i = .int .i64 v ∧ v ≤ 4 ∧ P2 wk wx C I (upto I v) (Oof I (upto I v))) (fun i _ => 4 - (intOf i).toNat)
            case atStart => exact ⟨0, rfl, by decide, HP2.out⟩
            case round =>
              obtain ⟨v, rfl, hv, hQ⟩ := hrel
              obtain ⟨wx, hwx⟩ : ∃ wx, wx = wr := ⟨wr, rfl⟩
              subst hwx
              clear HP2
              by_cases hv4 : v < 4
              · have hv42 : (v : Int) < 4 := by omega
                have hP := HP1.out.kept (HC.out ▸ hQ.b)
                obtain ⟨a1, _⟩ := hP.h.cell hv4
                cases hhas : I.has v with
                | false =>
                  rw [hhas] at a1
                  have HQ : Hid (P2 wk wx C I (upto I (v + 1)) (Oof I (upto I (v + 1)))) := hQ.congr (fun u _ => upto_skip I v u hhas) (fun h u _ _ => Oof_congr (upto_skip I v u hhas))
                  clear hQ hP
                  go_wp2_with fail
                  go_roundw
                  case rel => exact ⟨v + 1, rfl, by omega, HQ.out⟩
                  case measure => simp [intOf]; omega
                | true =>
                  rw [hhas] at a1
                  go_upto_region 33 with (go_at_call 12; refine (name_any v hv4 _).mono ?_; rintro e w' ⟨rfl, hw'⟩; obtain rfl : wx = w' := hw'.symm)
                  clear a1
                  obtain ⟨a2, _⟩ := hP.s.cell hv4
                  obtain ⟨a3, _⟩ := hP.l.cell hv4
                  obtain ⟨au, cu, hsl⟩ : ∃ au cu, I.sl v = .slice au (I.Hs v).length cu := by
                    obtain ⟨au, cu, e, _⟩ := (hP.k v hv4).1
                    exact ⟨au, cu, e⟩
                  have hlp := (hP.k v hv4).2.2.2
                  rw [hsl] at a2
                  obtain ⟨_, c2, _, _, _⟩ := hQ.st.cells
                  obtain ⟨t0, t1, t2, _⟩ := hQ.t.cells
                  have HS : Hid (∀ w', NM wx w' → w'.cell? ⟨C + 4, 2, none⟩ = some (.map (some (C + 1))) ∧ w'.cell? ⟨B + 1, v, none⟩ = some (.slice au (I.Hs v).length cu) ∧ w'.cell? ⟨C, 0, none⟩ = some (.int .u64 0) ∧ w'.cell? ⟨C, 1, none⟩ = some (.int .i64 0) ∧ w'.cell? ⟨C, 2, none⟩ = some (.pointer none) ∧ w'.cell? ⟨B + 2, v, none⟩ = some (.int .i64 (I.lp v))) := by
                    intro w' hnm
                    have q1 := hnm _ _ hQ.st.c (by intro es c e; cases e)
                    have q2 := hnm _ _ hP.s (by intro es c e; cases e)
                    have q3 := hnm _ _ hQ.t (by intro es c e; cases e)
                    have q4 := hnm _ _ hP.l (by intro es c e; cases e)
                    exact ⟨(World.cell?_of_block (a := ⟨C + 4, 2, none⟩) (q1.trans hQ.st.c.symm)).trans c2, (World.cell?_of_block (a := ⟨B + 1, v, none⟩) (q2.trans hP.s.symm)).trans a2, (World.cell?_of_block (a := ⟨C, 0, none⟩) (q3.trans hQ.t.symm)).trans t0, (World.cell?_of_block (a := ⟨C, 1, none⟩) (q3.trans hQ.t.symm)).trans t1, (World.cell?_of_block (a := ⟨C, 2, none⟩) (q3.trans hQ.t.symm)).trans t2, (World.cell?_of_block (a := ⟨B + 2, v, none⟩) (q4.trans hP.l.symm)).trans a3⟩
                  have HQ : Hid (P2 wk wx C I (upto I v) (Oof I (upto I v)) ∧ P1 w wx B I) := ⟨hQ, hP⟩
                  have hnm0 : NM wx wx.drew := fun _ _ h _ => h
                  clear hQ hP a2 a3 c2 t0 t1 t2
                  go_region_held3 (fun w' => w'.cell? ⟨C + 4, 2, none⟩ = some (.map (some (C + 1))) ∧ w'.cell? ⟨B + 1, v, none⟩ = some (.slice au (I.Hs v).length cu) ∧ w'.cell? ⟨C, 0, none⟩ = some (.int .u64 0) ∧ w'.cell? ⟨C, 1, none⟩ = some (.int .i64 0) ∧ w'.cell? ⟨C, 2, none⟩ = some (.pointer none) ∧ w'.cell? ⟨B + 2, v, none⟩ = some (.int .i64 (I.lp v))) (exact HS.out _ (by assumption))
                    ((go_at_call 13; refine (addN' (I.lp v) _ hlp).mono ?_; rintro e w5 ⟨rfl, hb5⟩; have hnm5 : NM wx w5 := fun j o h ho => NM.ofBelow hb5 (Nat.le_refl _) j o h ho; have hm5 : MapT w5 (C + 1) 4 vv (Vof I (upto I v)) := HQ.out.1.mp.kept (hb5.block _ HQ.out.1.mp.lt); obtain ⟨w6, hrun6, hm6, ht6⟩ := MapT.put tabV hm5 Yba.underlying78 hv4 (.agg #[.slice au (I.Hs v).length cu, .int .u64 (tnN (I.lp v)), .int .i64 (tnS (I.lp v)), .pointer none]); have hnm6 : NM wx w6 := hnm5.turned ht6))
                  have b5 : Below wx.heap.size wx w5 := ((Below.refl _ _).drew).trans hb5
                  have hCx : C ≤ wx.heap.size := by have := HQ.out.1.mp.lt; omega
                  have HQ6 : Hid (P2 wk w6 C I (upto I (v + 1)) (addQ (Oof I (upto I v)) ((I.Hs v).take 0) v)) := by
                    refine ⟨((HQ.out.1.st.below (Nat.le_refl _) b5).turnV ht6).congr (fun h u _ _ => by simp [addQ]), hm6.congr (fun u _ => ?_), (HQ.out.1.b.trans (below_le b5 hCx)).trans (turned_below ht6 (Nat.le_succ _)), HQ.out.1.t.nm hnm6⟩
                    rw [← upto_put I v u hhas, hsl]
                    rfl
                  have hP6 := HP1.out.kept (HC.out ▸ HQ6.out.b)
                  obtain ⟨a2, _⟩ := hP6.s.cell hv4
                  rw [hsl] at a2
                  have HHS : Hid ((∀ h ∈ I.Hs v, h < 3) ∧ (I.Hs v).length ≤ 256 ∧ I.sl v = .slice au (I.Hs v).length cu ∧ I.has v = true) := ⟨(HQ.out.2.k v hv4).2.1, (HQ.out.2.k v hv4).2.2.1, hsl, hhas⟩
                  have hlen := HHS.out.2.1
                  clear hnm6 ht6 hm6 hrun6 hm5 hnm5 hb5 hnm0 HS HQ b5 hP6 hsl hlp hhas
                  go_wp2_with fail
                  clear a2
                  go_loopw [19, 130] (fun _ i wy => ∃ j : Nat, i = .int .i64 j ∧ j ≤ (I.Hs v).length ∧ P2 wk wy C I (upto I (v + 1)) (addQ (Oof I (upto I v)) ((I.Hs v).take j) v)) (fun _ i _ => (I.Hs v).length - (intOf i).toNat)
                  case atStart => exact ⟨0, rfl, Nat.zero_le _, HQ6.out⟩
                  case round =>
                    obtain ⟨j, rfl, hj, hQ⟩ := hrel
                    obtain ⟨wy, hwy⟩ : ∃ wy, wy = wr := ⟨wr, rfl⟩
                    subst hwy
                    clear HQ6
                    by_cases hjl : j < (I.Hs v).length
                    · have hjl2 : (j : Int) < (I.Hs v).length := by omega
                      have hP := HP1.out.kept (HC.out ▸ hQ.b)
                      have hh : (I.Hs v).getD j 0 < 3 := HHS.out.1 _ (by rw [List.getD_eq_getElem?_getD, List.getElem?_eq_getElem hjl]; exact List.getElem_mem hjl)
                      obtain ⟨au', cu', e1, hcell⟩ := (hP.k v hv4).1
                      rw [HHS.out.2.2.1] at e1
                      injection e1 with e1 e2 e3
                      subst e1
                      obtain ⟨b0, _, _, rfl, hc0⟩ := hcell (by intro e; rw [e] at hjl; simp at hjl)
                      have hcell := hc0 j hjl
                      have HSTEP : Hid (∀ h' v', add1 (addQ (Oof I (upto I v)) ((I.Hs v).take j) v) ((I.Hs v).getD j 0) v h' v' = addQ (Oof I (upto I v)) ((I.Hs v).take (j + 1)) v h' v') := addQ_step _ _ v j hjl
                      generalize (I.Hs v).getD j 0 = h at hh hcell HSTEP
                      generalize addQ (Oof I (upto I v)) ((I.Hs v).take j) v = Ok at hQ HSTEP
                      obtain ⟨ob, ho⟩ := hQ.st.os
                      obtain ⟨c0, c2, c3, c4, f0⟩ := hQ.st.cells
                      have HO := ho.map
                      have HQ : Hid (P2 wk wy C I (upto I (v + 1)) Ok ∧ OS wy C (C + 1) (C + 2) (C + 3) Ok ob) := ⟨hQ, ho⟩
                      clear e2 e3 hc0
                      cases hob : ob h with
                      | none =>
                        have hu2 : (obf ob h).getD (.map none) = .map none := by simp [obf, hob]
                        have hn0 := eqNilMap0
                        have hmm := @run_makeMap Yba.prog
                        have HOA : MapT (wy.alloc (.map #[] 0)) (C + 2) 3 Ybulkbofk.hv (obf ob) := HO.kept (Below.heap_alloc _ _ _ HO.lt)
                        have HX : Hid (C ≤ wy.heap.size ∧ C + 1 < wy.heap.size ∧ C + 3 < wy.heap.size ∧ C + 4 < wy.heap.size ∧ ob h = none) := by
                          have l1 := hQ.mp.lt
                          have l3 : C + 3 < wy.heap.size := (Array.getElem?_eq_some_iff.1 hQ.st.wt).1
                          have l4 : C + 4 < wy.heap.size := (Array.getElem?_eq_some_iff.1 hQ.st.c).1
                          exact ⟨by omega, l1, l3, l4, hob⟩
                        clear hQ hP ho hob
                        go_upto_region 39 with (first
                          | (at_lookup; refine wpList_lookT _ rfl _ _ 79 rfl 83 tabH Yba.underlying79 (Yba.zeroValue83 _) (C + 2) HO rfl h hh rfl _ hu2 ?_)
                          | (at_mapUpdate; refine wpList_putT _ rfl _ _ _ 79 rfl 83 tabH Yba.underlying79 (C + 2) HOA rfl h hh rfl (.map (some wy.heap.size)) rfl ?_; intro w7 hm7 ht7))
                        have hu3 : (upd (obf ob) h (some (.map (some wy.heap.size))) h).getD (.map none) = .map (some wy.heap.size) := by simp [upd]
                        have c37 : w7.cell? ⟨C + 4, 3, none⟩ = some (.map (some (C + 2))) := by
                          refine (World.cell?_of_block (a := ⟨C + 4, 3, none⟩) ((turned_heap ht7 (by show C + 4 ≠ C + 2; omega)).trans (Below.heap_alloc _ _ _ HX.out.2.2.2.1))).trans c3
                        have i7 : MapT w7 wy.heap.size 4 vv (inf Ok h) := by
                          refine (mapT_empty ((turned_heap ht7 (by have := HO.lt; omega)).trans (heap_alloc_new wy _))).congr (fun u hu => ?_)
                          unfold inf
                          rw [HQ.out.2.non h u hh hu HX.out.2.2.2.2]
                          rfl
                        clear c0 c2 c3 c4 f0 HOA HO hu2 hmm hn0
                        go_wp2_with (first
                          | (at_lookup; refine wpList_lookT _ rfl _ _ 79 rfl 83 tabH Yba.underlying79 (Yba.zeroValue83 _) (C + 2) hm7 rfl h hh rfl _ hu3 ?_)
                          | (at_mapUpdate; refine wpList_putT _ rfl _ _ _ 83 rfl 4 tabV Yba.underlying83 wy.heap.size i7 rfl v hv4 rfl (.bool true) rfl ?_; intro w8 hm8 ht8))
                        have hO8 := HQ.out.2.put0 hh hv4 HX.out.2.2.2.2 HX.out.1 HX.out.2.1 HX.out.2.2.1 rfl ht7 hm7 ht8 hm8
                        exact ⟨⟨j + 1, by simp, by omega, (HQ.out.1.put0 ht7 ht8 hO8).congr (fun _ _ => rfl) (fun h' v' _ _ => HSTEP.out h' v')⟩, by simp [intOf]; omega⟩
                      | some b =>
                        have hu2 : (obf ob h).getD (.map none) = .map (some b) := by simp [obf, hob]
                        have hn1 := eqNilMap b
                        obtain ⟨i1, i2, i3, i4, i5, i6⟩ := ho.inn h b hh hob
                        have HI : Hid (C ≤ b ∧ b ≠ C + 1 ∧ b ≠ C + 3 ∧ ob h = some b) := ⟨i3, i4, i6, hob⟩
                        clear hQ hP ho hob i2 i3 i4 i5 i6
                        go_wp2_with (first
                          | (at_lookup; refine wpList_lookT _ rfl _ _ 79 rfl 83 tabH Yba.underlying79 (Yba.zeroValue83 _) (C + 2) HO rfl h hh rfl _ hu2 ?_)
                          | (at_mapUpdate; refine wpList_putT _ rfl _ _ _ 83 rfl 4 tabV Yba.underlying83 b i1 rfl v hv4 rfl (.bool true) rfl ?_; intro w7 hm7 ht7))
                        have hO7 := HQ.out.2.put1 hh hv4 HI.out.2.2.2 ht7 hm7
                        exact ⟨⟨j + 1, by simp, by omega, (HQ.out.1.turn1 ht7 ⟨HI.out.1, HI.out.2.1, HI.out.2.2.1⟩ hO7).congr (fun _ _ => rfl) (fun h' v' _ _ => HSTEP.out h' v')⟩, by simp [intOf]; omega⟩
                    · obtain rfl : j = (I.Hs v).length := by omega
                      have HQ : Hid (P2 wk wy C I (upto I (v + 1)) (Oof I (upto I (v + 1)))) := hQ.congr (fun _ _ => rfl) (fun h u _ _ => by rw [List.take_length]; exact upto_add I v h u HHS.out.2.2.2)
                      clear hQ
                      go_wp2_with fail
                      go_roundw
                      case rel => exact ⟨v + 1, rfl, by omega, HQ.out⟩
                      case measure => simp [intOf]; omega
              · obtain rfl : v = 4 := by omega
                have HQ : Hid (P2 wk wx C I I.has (Oof I I.has)) := hQ.congr (fun u hu => by simp [upto, hu]) (fun h u _ hu => Oof_congr (by simp [upto, hu]))
                obtain ⟨t0, t1, t2, _⟩ := hQ.t.cells
                clear hQ hv4
                go_wp2_with fail
                refine (addN' now _ HNOW.out).mono ?_
                rintro e w3 ⟨rfl, hb3⟩
                have HQ3 : Hid (P2 wk w3 C I I.has (Oof I I.has)) := HQ.out.below (Nat.le_refl _) hb3
                have HOK : Hid (I.ok wk C) := fun v hv => ⟨by have := (HP1.out.k v hv).1.to; rw [← HC.out] at this; exact this, (HP1.out.k v hv).2⟩
                clear t0 t1 t2 HQ hb3
                go_wp2_with fail
                refine (prune' C (C + 4) (C + 1) (C + 2) (C + 3) I now w3 HQ3.out.st HQ3.out.mp (HOK.out.below HQ3.out.b)).mono ?_
                rintro e w4 ⟨rfl, hst4, hmp4, hb4, hkx4⟩
                have HQ4 : Hid (P2 wk w4 C I (keepOf I now) (Oof I (keepOf I now))) := ⟨hst4, hmp4, HQ3.out.b.trans hb4, hkx4 _ _ (by omega) HQ3.out.t (by intro es c e; cases e)⟩
                clear hst4 hmp4 hb4 hkx4 HQ3
                go_upto_region 43 with fail
                obtain ⟨W5, hW5⟩ : ∃ W5, W5 = w4.alloc (.cells #[.bool false, .bool false, .bool false, .bool false] 62) := ⟨_, rfl⟩
                have HK5 : Hid (R4 W5 w4.heap.size 62 (fun u => .bool (keepOf I now u && decide (u < 0))) ∧ Below w4.heap.size w4 W5 ∧ w4.heap.size < W5.heap.size) := by
                  rw [hW5]
                  refine ⟨?_, (Below.refl _ _).alloc (Nat.le_refl _) _, by simp⟩
                  have := heap_alloc_new w4 (.cells #[.bool false, .bool false, .bool false, .bool false] 62)
                  unfold R4
                  simpa using this
                rw [← hW5]
                clear hW5
                obtain ⟨K, hK⟩ : ∃ K, K = w4.heap.size := ⟨_, rfl⟩
                rw [← hK]
                rw [← hK] at HK5
                have HKs : Hid (K = w4.heap.size) := hK
                clear hK
                go_wp2_with fail
                go_loopw [21, 22] (fun c i wr => ∃ v : Nat, i = .int .i64 v ∧ v ≤ 4 ∧ c = .int .i64 (cntK (keepOf I now) v : Nat) ∧ R4 wr K 62 (fun u => .bool (keepOf I now u && decide (u < v))) ∧ Below K w4 wr ∧ K < wr.heap.size) (fun _ i _ => 4 - (intOf i).toNat)
                case atStart => exact ⟨0, rfl, by decide, rfl, HK5.out⟩
                case round =>
                  obtain ⟨v, rfl, hv, rfl, hR, hbK, hKlt⟩ := hrel
                  obtain ⟨wy, hwy⟩ : ∃ wy, wy = wr := ⟨wr, rfl⟩
                  subst hwy
                  clear HK5
                  by_cases hv4 : v < 4
                  · have hv42 : (v : Int) < 4 := by omega
                    have hQ := HQ4.out.below (K := K) (Nat.le_of_eq HKs.out.symm) hbK
                    have hP := HP1.out.kept (HC.out ▸ hQ.b)
                    obtain ⟨a1, _⟩ := hP.h.cell hv4
                    obtain ⟨a3, _⟩ := hP.l.cell hv4
                    obtain ⟨r1, rf1⟩ := hR.cell hv4
                    have HR : Hid (∀ b, keepOf I now v = b → R4 (wy.setCell ⟨K, v, none⟩ (.bool b)) K 62 (fun u => .bool (keepOf I now u && decide (u < v + 1)))) := fun b hb => (hR.set hv4 (.bool b)).congr (fun u _ => by
                      by_cases e : u = v
                      · subst e
                        simp [hb]
                      · have : (u < v) ↔ (u < v + 1) := by omega
                        simp [e, this])
                    have HQ : Hid (P2 wk wy C I (keepOf I now) (Oof I (keepOf I now)) ∧ P1 w wy B I ∧ Below K w4 wy ∧ C + 4 < K) := ⟨hQ, hP, hbK, by
                      have := (Array.getElem?_eq_some_iff.1 HQ4.out.st.c).1
                      have := HKs.out
                      omega⟩
                    have hcl := cntK_le (keepOf I now) v
                    have HCS : Hid (cntK (keepOf I now) (v + 1) = cntK (keepOf I now) v + if keepOf I now v then 1 else 0) := cntK_step _ v
                    generalize hcv : cntK (keepOf I now) v = cv at *
                    clear hQ hP hR hbK
                    have HKV : Hid (∀ b, keepOf I now v = b → R4 (wy.setCell ⟨K, v, none⟩ (.bool b)) K 62 (fun u => .bool (keepOf I now u && decide (u < v + 1))) ∧ Below K w4 (wy.setCell ⟨K, v, none⟩ (.bool b)) ∧ K < (wy.setCell ⟨K, v, none⟩ (.bool b)).heap.size ∧ P2 wk (wy.setCell ⟨K, v, none⟩ (.bool b)) C I (keepOf I now) (Oof I (keepOf I now))) := fun b hb =>
                      have hb6 : Below K w4 (wy.setCell ⟨K, v, none⟩ (.bool b)) := HQ.out.2.2.1.setCell (Nat.le_refl K) (.bool b)
                      ⟨HR.out b hb, hb6, by simp [hKlt], HQ4.out.below (K := K) (Nat.le_of_eq HKs.out.symm) hb6⟩
                    cases hkv : keepOf I now v with
                    | false =>
                      cases hhas : I.has v with
                      | false =>
                        rw [hhas] at a1
                        go_upto_region 48 with fail
                        obtain ⟨k1, k2, k3, k4⟩ := HKV.out false hkv
                        generalize wy.setCell ⟨K, v, none⟩ (.bool false) = W6 at k1 k2 k3 k4 ⊢
                        obtain ⟨_, c2, _, _, _⟩ := k4.st.cells
                        have r6 : W6.cell? ⟨K, v, none⟩ = some (.bool false) := by
                          have := (k1.cell hv4).1
                          rw [hkv] at this
                          exact this
                        have hu : (Vof I (keepOf I now) v).getD (.agg #[.slice none 0 0, .int .u64 0, .int .i64 0, .pointer none]) = .agg #[.slice none 0 0, .int .u64 0, .int .i64 0, .pointer none] := by simp [Vof, hkv]
                        have hok : (Vof I (keepOf I now) v).isSome = false := by simp [Vof, hkv]
                        have HM6 := k4.mp
                        have HK6 : Hid (R4 W6 K 62 (fun u => .bool (keepOf I now u && decide (u < v + 1))) ∧ Below K w4 W6 ∧ K < W6.heap.size ∧ W6.cell? ⟨K, v, none⟩ = some (.bool false)) := ⟨k1, k2, k3, r6⟩
                        clear k1 k2 k3 k4 r6 a1 a3 r1 rf1
                        go_upto_region 50 with (first
                          | (go_at_call 12; refine (name_any v hv4 _).mono ?_; rintro e w' ⟨rfl, hw'⟩; obtain rfl : W6 = w' := hw'.symm)
                          | (at_lookup; refine wpList_lookTok _ rfl _ _ 78 rfl 70 tabV Yba.underlying78 (Yba.zeroValue70 _) (C + 1) HM6 rfl v hv4 rfl _ hu _ hok ?_))
                        clear hu hok HM6 c2
                        obtain ⟨W7, hW7⟩ : ∃ W7, W7 = W6.alloc (.cells #[.slice none 0 0, .int .u64 0, .int .i64 0, .pointer none] 70) := ⟨_, rfl⟩
                        have b7 : Below W6.heap.size W6 W7 := by rw [hW7]; exact (Below.refl _ _).alloc (Nat.le_refl _) _
                        have r7 : W7.cell? ⟨K, v, none⟩ = some (.bool false) := (b7.cell (p := ⟨K, v, none⟩) HK6.out.2.2.1).trans HK6.out.2.2.2
                        have H7 : Hid (R4 W7 K 62 (fun u => .bool (keepOf I now u && decide (u < v + 1))) ∧ Below K w4 W7 ∧ K < W7.heap.size) := ⟨HK6.out.1.other (b7.block _ HK6.out.2.2.1), HK6.out.2.1.trans (below_le b7 (Nat.le_of_lt HK6.out.2.2.1)), Nat.lt_of_lt_of_le HK6.out.2.2.1 b7.size⟩
                        rw [← hW7]
                        clear hW7 b7 HK6
                        go_wp2_with fail
                        go_roundw
                        case rel => exact ⟨v + 1, rfl, by omega, by rw [HCS.out, hkv]; simp, H7.out⟩
                        case measure => simp [intOf]; omega
                      | true =>
                        rw [hhas] at a1
                        have hnl : ¬ (now < I.lp v) := by
                          unfold keepOf at hkv
                          rw [hhas] at hkv
                          simpa using hkv
                        go_upto_region 48 with fail
                        obtain ⟨k1, k2, k3, k4⟩ := HKV.out false hkv
                        generalize wy.setCell ⟨K, v, none⟩ (.bool false) = W6 at k1 k2 k3 k4 ⊢
                        obtain ⟨_, c2, _, _, _⟩ := k4.st.cells
                        have r6 : W6.cell? ⟨K, v, none⟩ = some (.bool false) := by
                          have := (k1.cell hv4).1
                          rw [hkv] at this
                          exact this
                        have hu : (Vof I (keepOf I now) v).getD (.agg #[.slice none 0 0, .int .u64 0, .int .i64 0, .pointer none]) = .agg #[.slice none 0 0, .int .u64 0, .int .i64 0, .pointer none] := by simp [Vof, hkv]
                        have hok : (Vof I (keepOf I now) v).isSome = false := by simp [Vof, hkv]
                        have HM6 := k4.mp
                        have HK6 : Hid (R4 W6 K 62 (fun u => .bool (keepOf I now u && decide (u < v + 1))) ∧ Below K w4 W6 ∧ K < W6.heap.size ∧ W6.cell? ⟨K, v, none⟩ = some (.bool false)) := ⟨k1, k2, k3, r6⟩
                        clear k1 k2 k3 k4 r6 a1 a3 r1 rf1
                        go_upto_region 50 with (first
                          | (go_at_call 12; refine (name_any v hv4 _).mono ?_; rintro e w' ⟨rfl, hw'⟩; obtain rfl : W6 = w' := hw'.symm)
                          | (at_lookup; refine wpList_lookTok _ rfl _ _ 78 rfl 70 tabV Yba.underlying78 (Yba.zeroValue70 _) (C + 1) HM6 rfl v hv4 rfl _ hu _ hok ?_))
                        clear hu hok HM6 c2
                        obtain ⟨W7, hW7⟩ : ∃ W7, W7 = W6.alloc (.cells #[.slice none 0 0, .int .u64 0, .int .i64 0, .pointer none] 70) := ⟨_, rfl⟩
                        have b7 : Below W6.heap.size W6 W7 := by rw [hW7]; exact (Below.refl _ _).alloc (Nat.le_refl _) _
                        have r7 : W7.cell? ⟨K, v, none⟩ = some (.bool false) := (b7.cell (p := ⟨K, v, none⟩) HK6.out.2.2.1).trans HK6.out.2.2.2
                        have H7 : Hid (R4 W7 K 62 (fun u => .bool (keepOf I now u && decide (u < v + 1))) ∧ Below K w4 W7 ∧ K < W7.heap.size) := ⟨HK6.out.1.other (b7.block _ HK6.out.2.2.1), HK6.out.2.1.trans (below_le b7 (Nat.le_of_lt HK6.out.2.2.1)), Nat.lt_of_lt_of_le HK6.out.2.2.1 b7.size⟩
                        rw [← hW7]
                        clear hW7 b7 HK6
                        go_wp2_with fail
                        go_roundw
                        case rel => exact ⟨v + 1, rfl, by omega, by rw [HCS.out, hkv]; simp, H7.out⟩
                        case measure => simp [intOf]; omega
                    | true =>
                      obtain ⟨hhas, hnl⟩ : I.has v = true ∧ now < I.lp v := by
                        unfold keepOf at hkv
                        simpa using hkv
                      rw [hhas] at a1
                      go_upto_region 48 with fail
                      obtain ⟨k1, k2, k3, k4⟩ := HKV.out true hkv
                      generalize wy.setCell ⟨K, v, none⟩ (.bool true) = W6 at k1 k2 k3 k4 ⊢
                      obtain ⟨_, c2, _, _, _⟩ := k4.st.cells
                      obtain ⟨au, cu, hsl⟩ : ∃ au cu, I.sl v = .slice au (I.Hs v).length cu := by
                        obtain ⟨au, cu, e, _⟩ := (HQ.out.2.1.k v hv4).1
                        exact ⟨au, cu, e⟩
                      have r6 : W6.cell? ⟨K, v, none⟩ = some (.bool true) := by
                        have := (k1.cell hv4).1
                        rw [hkv] at this
                        simpa using this
                      have hu : (Vof I (keepOf I now) v).getD (.agg #[.slice none 0 0, .int .u64 0, .int .i64 0, .pointer none]) = .agg #[.slice au (I.Hs v).length cu, .int .u64 (tnN (I.lp v)), .int .i64 (tnS (I.lp v)), .pointer none] := by simp [Vof, hkv, vw, hsl]
                      have hok : (Vof I (keepOf I now) v).isSome = true := by simp [Vof, hkv]
                      have HM6 := k4.mp
                      have HK6 : Hid (R4 W6 K 62 (fun u => .bool (keepOf I now u && decide (u < v + 1))) ∧ Below K w4 W6 ∧ K < W6.heap.size ∧ W6.cell? ⟨K, v, none⟩ = some (.bool true) ∧ P2 wk W6 C I (keepOf I now) (Oof I (keepOf I now))) := ⟨k1, k2, k3, r6, k4⟩
                      clear k1 k2 k3 k4 r6 a1 a3 r1 rf1
                      go_upto_region 50 with (first
                        | (go_at_call 12; refine (name_any v hv4 _).mono ?_; rintro e w' ⟨rfl, hw'⟩; obtain rfl : W6 = w' := hw'.symm)
                        | (at_lookup; refine wpList_lookTok _ rfl _ _ 78 rfl 70 tabV Yba.underlying78 (Yba.zeroValue70 _) (C + 1) HM6 rfl v hv4 rfl _ hu _ hok ?_))
                      clear hu hok HM6 c2
                      obtain ⟨W7, hW7⟩ : ∃ W7, W7 = W6.alloc (.cells #[.slice au (I.Hs v).length cu, .int .u64 (tnN (I.lp v)), .int .i64 (tnS (I.lp v)), .pointer none] 70) := ⟨_, rfl⟩
                      have b7 : Below W6.heap.size W6 W7 := by rw [hW7]; exact (Below.refl _ _).alloc (Nat.le_refl _) _
                      have r7 : W7.cell? ⟨K, v, none⟩ = some (.bool true) := (b7.cell (p := ⟨K, v, none⟩) HK6.out.2.2.1).trans HK6.out.2.2.2.1
                      have y7 : W7.heap[W6.heap.size]? = some (.cells #[.slice au (I.Hs v).length cu, .int .u64 (tnN (I.lp v)), .int .i64 (tnS (I.lp v)), .pointer none] 70 (0, 0)) := by rw [hW7]; exact heap_alloc_new W6 _
                      have H7 : Hid (R4 W7 K 62 (fun u => .bool (keepOf I now u && decide (u < v + 1))) ∧ Below K w4 W7 ∧ K < W7.heap.size ∧ P2 wk W7 C I (keepOf I now) (Oof I (keepOf I now))) := ⟨HK6.out.1.other (b7.block _ HK6.out.2.2.1), HK6.out.2.1.trans (below_le b7 (Nat.le_of_lt HK6.out.2.2.1)), Nat.lt_of_lt_of_le HK6.out.2.2.1 b7.size, HK6.out.2.2.2.2.below (Nat.le_refl _) b7⟩
                      rw [← hW7]
                      clear hW7 b7 HK6
                      go_upto_region 54 with fail
                      have hP7 := HP1.out.kept (HC.out ▸ H7.out.2.2.2.b)
                      obtain ⟨a2, _⟩ := hP7.s.cell hv4
                      obtain ⟨a3, _⟩ := hP7.l.cell hv4
                      rw [hsl] at a2
                      obtain ⟨t0, t1, t2, _⟩ := H7.out.2.2.2.t.cells
                      have y0 : W7.cell? ⟨W6.heap.size, 0, none⟩ = some (.slice au (I.Hs v).length cu) := by simp [World.cell?, y7]
                      have y1 : W7.cell? ⟨W6.heap.size, 1, none⟩ = some (.int .u64 (tnN (I.lp v))) := by simp [World.cell?, y7]
                      have y2 : W7.cell? ⟨W6.heap.size, 2, none⟩ = some (.int .i64 (tnS (I.lp v))) := by simp [World.cell?, y7]
                      have y3 : W7.cell? ⟨W6.heap.size, 3, none⟩ = some (.pointer none) := by simp [World.cell?, y7]
                      have hlp := (hP7.k v hv4).2.2.2
                      have hlen := (hP7.k v hv4).2.2.1
                      have HSLS : Hid (SlS W7 C (.slice au (I.Hs v).length cu) (I.Hs v) ∧ C ≤ W7.heap.size) := by
                        refine ⟨?_, ?_⟩
                        · have := ((HOK.out v hv4).1).below H7.out.2.2.2.b
                          rw [hsl] at this
                          exact this
                        · have := H7.out.2.2.2.mp.lt
                          omega
                      have HS : Hid (∀ w', Below W7.heap.size W7 w' → w'.cell? ⟨W6.heap.size, 0, none⟩ = some (.slice au (I.Hs v).length cu) ∧ w'.cell? ⟨W6.heap.size, 1, none⟩ = some (.int .u64 (tnN (I.lp v))) ∧ w'.cell? ⟨W6.heap.size, 2, none⟩ = some (.int .i64 (tnS (I.lp v))) ∧ w'.cell? ⟨W6.heap.size, 3, none⟩ = some (.pointer none) ∧
                          w'.cell? ⟨C, 0, none⟩ = some (.int .u64 0) ∧ w'.cell? ⟨C, 1, none⟩ = some (.int .i64 0) ∧ w'.cell? ⟨C, 2, none⟩ = some (.pointer none) ∧ w'.cell? ⟨B + 1, v, none⟩ = some (.slice au (I.Hs v).length cu) ∧ w'.cell? ⟨B + 2, v, none⟩ = some (.int .i64 (I.lp v))) := fun w' hb =>
                        have nm := NM.ofBelow hb (Nat.le_refl _)
                        ⟨nm.cell y0, nm.cell y1, nm.cell y2, nm.cell y3, nm.cell t0, nm.cell t1, nm.cell t2, nm.cell a2, nm.cell a3⟩
                      have hbb0 : Below W7.heap.size W7 W7.drew := (Below.refl _ _).drew
                      clear hP7 a2 a3 t0 t1 t2 y0 y1 y2 y3 y7
                      go_region_held3 (fun w' => w'.cell? ⟨W6.heap.size, 0, none⟩ = some (.slice au (I.Hs v).length cu) ∧ w'.cell? ⟨W6.heap.size, 1, none⟩ = some (.int .u64 (tnN (I.lp v))) ∧ w'.cell? ⟨W6.heap.size, 2, none⟩ = some (.int .i64 (tnS (I.lp v))) ∧ w'.cell? ⟨W6.heap.size, 3, none⟩ = some (.pointer none) ∧
                          w'.cell? ⟨C, 0, none⟩ = some (.int .u64 0) ∧ w'.cell? ⟨C, 1, none⟩ = some (.int .i64 0) ∧ w'.cell? ⟨C, 2, none⟩ = some (.pointer none) ∧ w'.cell? ⟨B + 1, v, none⟩ = some (.slice au (I.Hs v).length cu) ∧ w'.cell? ⟨B + 2, v, none⟩ = some (.int .i64 (I.lp v))) (exact HS.out _ (by assumption))
                        (first
                          | (go_at_call 13; refine (addN' (I.lp v) _ hlp).mono ?_; rintro e w8 ⟨rfl, hb8⟩; have hbb8 := below_next (A := W7) (by assumption) hb8)
                          | (go_at_call 9; refine (equal_D' (I.lp v) _).mono ?_; rintro e w9 ⟨rfl, hb9⟩; have hbb9 := below_next (A := W7) (by assumption) hb9)
                          | (go_at_call 15; refine (equal_sl C au (I.Hs v).length cu (I.Hs v) _ (HSLS.out.1.below (below_le (by assumption) HSLS.out.2)) hlen).mono ?_; rintro e w10 ⟨rfl, hb10⟩; have hbb10 := below_next (A := W7) (by assumption) hb10))
                      have H10 : Hid (R4 w10 K 62 (fun u => .bool (keepOf I now u && decide (u < v + 1))) ∧ Below K w4 w10 ∧ K < w10.heap.size) := ⟨H7.out.1.other (hbb10.block _ H7.out.2.2.1), H7.out.2.1.trans (below_le hbb10 (Nat.le_of_lt H7.out.2.2.1)), Nat.lt_of_lt_of_le H7.out.2.2.1 hbb10.size⟩
                      clear hbb10 hbb9 hbb8 hbb0 hb8 hb9 hb10 HS HSLS H7 hlp
                      go_wp2_with fail
                      go_roundw
                      case rel => exact ⟨v + 1, rfl, by omega, by rw [HCS.out, hkv]; simp, H10.out⟩
                      case measure => simp [intOf]; omega
                  · obtain rfl : v = 4 := by omega
                    rw [show (((4 : Nat) : Int)) = 4 from rfl]
                    have hQ := HQ4.out.below (K := K) (Nat.le_of_eq HKs.out.symm) hbK
                    have HQ : Hid (P2 wk wy C I (keepOf I now) (Oof I (keepOf I now)) ∧ P1 w wy B I ∧ R4 wy K 62 (fun u => .bool (keepOf I now u && decide (u < 4))) ∧ Below B w wy) := ⟨hQ, HP1.out.kept (HC.out ▸ hQ.b), hR, (HP1.out.kept (HC.out ▸ hQ.b)).b⟩
                    obtain ⟨ob, ho⟩ := hQ.st.os
                    have HO : Hid (OS wy C (C + 1) (C + 2) (C + 3) (Oof I (keepOf I now)) ob) := ho
                    have hcl := cntK_le (keepOf I now) 4
                    clear hQ hR hbK ho HQ4 hv
                    go_wp2_with fail
                    go_loopw [26, 27] (fun c i wr => ∃ h q : Nat, i = .int .i64 h ∧ h ≤ 3 ∧ c = .int .i64 (cntK (live (Oof I (keepOf I now))) h : Nat) ∧ wr = wy.drewN q) (fun _ i _ => 3 - (intOf i).toNat)
                    case atStart => exact ⟨0, 0, rfl, by decide, rfl, rfl⟩
                    case round =>
                      obtain ⟨h, q, rfl, hh, rfl, rfl⟩ := hrel
                      by_cases hh3 : h < 3
                      · have hh32 : (h : Int) < 3 := by omega
                        go_upto_region 62 with (go_at_call 10; refine (host_any h hh3 _).mono ?_; rintro e w' ⟨rfl, rfl⟩)
                        have hclh := cntK_le (live (Oof I (keepOf I now))) h
                        have HLS : Hid (cntK (live (Oof I (keepOf I now))) (h + 1) = cntK (live (Oof I (keepOf I now))) h + if live (Oof I (keepOf I now)) h then 1 else 0) := cntK_step _ h
                        generalize hlv : cntK (live (Oof I (keepOf I now))) h = lv at *
                        go_wp2_with fail
                        go_loopw [29, 30] (fun c i wr => ∃ v q : Nat, i = .int .i64 v ∧ v ≤ 4 ∧ c = .int .i64 (cntK (Oof I (keepOf I now) h) v : Nat) ∧ wr = wy.drewN q) (fun _ i _ => 4 - (intOf i).toNat)
                        case atStart => exact ⟨0, q, rfl, by decide, rfl, rfl⟩
                        case round =>
                          obtain ⟨v, q2, rfl, hv, rfl, rfl⟩ := hrel
                          by_cases hv4 : v < 4
                          · have hv42 : (v : Int) < 4 := by omega
                            obtain ⟨r1, _⟩ := HQ.out.2.2.1.cell hv4
                            obtain ⟨a2, _⟩ := HQ.out.2.1.s.cell hv4
                            obtain ⟨au, cu, hsl⟩ : ∃ au cu, I.sl v = .slice au (I.Hs v).length cu := by
                              obtain ⟨au, cu, e, _⟩ := (HQ.out.2.1.k v hv4).1
                              exact ⟨au, cu, e⟩
                            rw [hsl] at a2
                            have hcv := cntK_le (Oof I (keepOf I now) h) v
                            have HVS : Hid (cntK (Oof I (keepOf I now) h) (v + 1) = cntK (Oof I (keepOf I now) h) v + if Oof I (keepOf I now) h v then 1 else 0) := cntK_step _ v
                            generalize hcc : cntK (Oof I (keepOf I now) h) v = cc at *
                            have hcon := fun q' => contains_sl C au (I.Hs v).length cu h (I.Hs v) (wy.drewN q') (by
                              have := ((HOK.out v hv4).1).below HQ.out.1.b
                              rw [hsl] at this
                              exact this.nm (fun _ _ h _ => h)) (HOK.out v hv4).2.2.1 (HOK.out v hv4).2.1 hh3
                            have HCON : Hid (∀ q', Calls Yba.prog 16 #[.slice au (I.Hs v).length cu, Ybulkbofk.hv h] (wy.drewN q') fun e w' => e = .returned (.bool ((I.Hs v).contains h)) ∧ w' = wy.drewN q') := hcon
                            obtain ⟨_, c2, c3, _, _⟩ := HQ.out.1.st.cells
                            have l1 : ∀ q', (Instr.lookup 79 (.map (some (C + 2))) (Ybulkbofk.hv h) false).run Yba.prog (wy.drewN q') = .ok ((obf ob h).getD (.map none)) (wy.drewN q') := fun q' => by
                              have := (HO.out.drewN q').map.look tabH Yba.underlying79 (Yba.zeroValue83 _) hh3 false
                              simpa using this
                            have l2 : ∀ q', (Instr.lookup 83 ((obf ob h).getD (.map none)) (vv v) false).run Yba.prog (wy.drewN q') = .ok (.bool (Oof I (keepOf I now) h v)) (wy.drewN q') := fun q' => (HO.out.drewN q').look2 hh3 hv4
                            generalize (obf ob h).getD (.map none) = mo at l1 l2
                            have HOV : Hid (Oof I (keepOf I now) h v = (keepOf I now v && (I.Hs v).contains h)) := rfl
                            clear hcon
                            cases hkv : keepOf I now v with
                            | false =>
                              have r2 : wy.cell? ⟨K, v, none⟩ = some (.bool false) := by rw [r1, hkv]; rfl
                              have hO : Oof I (keepOf I now) h v = false := by rw [HOV.out, hkv]; rfl
                              rw [hO] at l2
                              clear r1
                              go_upto_region 66 with fail
                              go_region_held3 (fun w' => w'.cell? ⟨C + 4, 3, none⟩ = some (.map (some (C + 2)))) (simp [c3]) ((go_at_call 12; refine (name_any v hv4 _).mono ?_; rintro e w' ⟨rfl, rfl⟩))
                              all_goals
                                go_wp2_with fail
                                go_roundw
                                case rel => exact ⟨v + 1, _, rfl, by omega, by rw [HVS.out, hO]; simp, rfl⟩
                                case measure => simp [intOf]; omega
                            | true =>
                              have r2 : wy.cell? ⟨K, v, none⟩ = some (.bool true) := by rw [r1, hkv]; simp [hv4]
                              have hO : Oof I (keepOf I now) h v = (I.Hs v).contains h := by rw [HOV.out, hkv]; rfl
                              rw [hO] at l2
                              clear r1
                              cases hch : (I.Hs v).contains h with
                              | false =>
                                rw [hch] at HCON l2
                                go_upto_region 66 with (go_at_call 16; refine (HCON.out _).mono ?_; rintro e w' ⟨rfl, rfl⟩)
                                go_region_held3 (fun w' => w'.cell? ⟨C + 4, 3, none⟩ = some (.map (some (C + 2)))) (simp [c3]) ((go_at_call 12; refine (name_any v hv4 _).mono ?_; rintro e w' ⟨rfl, rfl⟩))
                                all_goals
                                  go_wp2_with fail
                                  go_roundw
                                  case rel => exact ⟨v + 1, _, rfl, by omega, by rw [HVS.out, hO, hch]; simp, rfl⟩
                                  case measure => simp [intOf]; omega
                              | true =>
                                rw [hch] at HCON l2
                                go_upto_region 66 with (go_at_call 16; refine (HCON.out _).mono ?_; rintro e w' ⟨rfl, rfl⟩)
                                go_region_held3 (fun w' => w'.cell? ⟨C + 4, 3, none⟩ = some (.map (some (C + 2)))) (simp [c3]) ((go_at_call 12; refine (name_any v hv4 _).mono ?_; rintro e w' ⟨rfl, rfl⟩))
                                all_goals
                                  go_wp2_with fail
                                  go_roundw
                                  case rel => exact ⟨v + 1, _, rfl, by omega, by rw [HVS.out, hO, hch]; simp, rfl⟩
                                  case measure => simp [intOf]; omega
                          · obtain rfl : v = 4 := by omega
                            obtain ⟨_, c2, c3, _, _⟩ := HQ.out.1.st.cells
                            have HM2 : MapT (wy.drewN q2) (C + 2) 3 Ybulkbofk.hv (obf ob) := (HO.out.drewN q2).map
                            clear hv hv4
                            cases hob : ob h with
                            | none =>
                              have e0 := HO.out.live_none hh3 hob
                              have hlv : live (Oof I (keepOf I now)) h = false := by unfold live; rw [e0]; rfl
                              rw [e0]
                              have hu : (obf ob h).getD (.map none) = .map none := by simp [obf, hob]
                              have hok : (obf ob h).isSome = false := by simp [obf, hob]
                              go_wp2_with (at_lookup; refine wpList_lookTok _ rfl _ _ 79 rfl 83 tabH Yba.underlying79 (Yba.zeroValue83 _) (C + 2) HM2 rfl h hh3 rfl _ hu _ hok ?_)
                              go_roundw
                              case rel => exact ⟨h + 1, _, rfl, by omega, by rw [HLS.out, hlv]; simp, rfl⟩
                              case measure => simp [intOf]; omega
                            | some b =>
                              have e0 := HO.out.live_some hh3 hob
                              have hlv : live (Oof I (keepOf I now)) h = true := by unfold live; simpa using e0
                              have hmb : MapT (wy.drewN q2) b 4 vv (inf (Oof I (keepOf I now)) h) := ((HO.out.drewN q2).inn h b hh3 hob).1
                              have hcb : cntT 4 (inf (Oof I (keepOf I now)) h) = cntK (Oof I (keepOf I now) h) 4 := cnt_inf _ h 4
                              have hu : (obf ob h).getD (.map none) = .map (some b) := by simp [obf, hob]
                              have hok : (obf ob h).isSome = true := by simp [obf, hob]
                              have HLN := fun ty => MapT.len tabV hmb Yba.underlying83 ty
                              rw [hcb] at HLN
                              generalize cntK (Oof I (keepOf I now) h) 4 = c4 at e0 HLN ⊢
                              have e02 : (0 : Int) < c4 := by omega
                              clear hcb hmb
                              go_wp2_with (first
                                | (at_lookup; refine wpList_lookTok _ rfl _ _ 79 rfl 83 tabH Yba.underlying79 (Yba.zeroValue83 _) (C + 2) HM2 rfl h hh3 rfl _ hu _ hok ?_))
                              go_roundw
                              case rel => exact ⟨h + 1, _, rfl, by omega, by rw [HLS.out, hlv]; simp, rfl⟩
                              case measure => simp [intOf]; omega
                      · obtain rfl : h = 3 := by omega
                        obtain ⟨_, c2, c3, c4, _⟩ := HQ.out.1.st.cells
                        have m1 : MapT (wy.drewN q) (C + 1) 4 vv (Vof I (keepOf I now)) := HQ.out.1.mp.kept rfl
                        have m2 : MapT (wy.drewN q) (C + 2) 3 Ybulkbofk.hv (obf ob) := (HO.out.drewN q).map
                        have m3 : MapT (wy.drewN q) (C + 3) 4 vv (fun _ => none) := mapT_empty HQ.out.1.st.wt
                        have n1 := cnt_V I (keepOf I now) 4
                        have n2 := HO.out.live_cnt
                        have n3 := cnt_none 4
                        clear hh hh3
                        have L1 := fun ty => MapT.len tabV m1 Yba.underlying78 ty
                        have L2 := fun ty => MapT.len tabH m2 Yba.underlying79 ty
                        have L3 := fun ty => MapT.len tabV m3 Yba.underlying80 ty
                        rw [n1] at L1
                        rw [n2] at L2
                        rw [n3] at L3
                        generalize cntK (keepOf I now) 4 = x1 at L1 ⊢
                        generalize cntK (live (Oof I (keepOf I now))) 3 = x2 at L2 ⊢
                        clear n1 n2 n3 m1 m2 m3
                        go_wp2
                        go_ret
                        exact ⟨rfl, HB.out ▸ (HQ.out.2.2.2.trans ⟨rfl, rfl, rfl, Nat.le_refl _, fun _ _ => rfl⟩)⟩
end Go.Proofs.Ybulkbofk
