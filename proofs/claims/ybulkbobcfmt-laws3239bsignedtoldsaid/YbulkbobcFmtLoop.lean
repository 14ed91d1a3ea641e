/-
  readFull's loop.
-/
import Derived.Test.YbulkbobcFmtFull
namespace Go.Proofs.YbulkbobcFmt
open Go.Extern.Stop Go.Stop Go.Extern Go.RowKit

set_option maxRecDepth 100000 in
set_option maxHeartbeats 2000000 in
/-- readFull, where the run at hand lacks bytes and the stated size has them. -/
theorem full_loop (F : Interp) {B C R g cap : Nat} {ea : Addr} {vs : List Value} {xss : List (List Int)} {w : World} {xs : List Int} {size : Int} {ds : List Value} (wd : Nat) (hF : F.answers w.tape)
    (h : St B C R g cap ea vs xss w 0 0 xs size 0 ds) (hw8 : wd ≤ 8) (hwl : xs.length < wd) (hs : (wd : Int) ≤ size) (hs2 : size ≤ 9223372036854775807) :
    Calls Ybaf.prog 11 #[.pointer (some ⟨C, 0, none⟩), .slice (some ⟨C, 8, none⟩) wd 8] w fun e w' => Only w.heap.size [C, R] w w' ∧
      ((e = .returned .nilIface ∧ ∃ bs rest a u pos', bs.length = wd ∧ stream xs 0 xss 0 = bs ++ rest ∧ (∀ x ∈ bs, 0 ≤ x ∧ x ≤ 255) ∧ Cont w' C R a u size pos' (bs.map (Value.int .u8) ++ ds.drop wd)) ∨
       ((∃ x, e = .returned (.iface 59 (.pointer (some x)))) ∧ (stream xs 0 xss 0).length < wd)) := by
  obtain ⟨a, c, hC, hrun⟩ := h.cont
  obtain ⟨q0, q1, q2, q3, q4, q5, q6⟩ := hC.cells
  have hxl := h.hxl
  have H : Hid (St B C R g cap ea vs xss w 0 0 xs size 0 ds) := h
  have HF : Hid (F.answers w.tape) := hF
  clear h hC hrun hF
  go_enter Ybaf.func11, Ybaf.ntmps11
  go_wp2
  go_quiet (fail)
  go_wp2_with (go_at_call 13; refine (need_ok C _ size _ ?_ ?_ ?_ hs2 ?_).mono ?_; exact q4; exact q5; omega; omega; rintro e w1 ⟨rfl, q, rfl⟩)
  go_loopg [1] wd (fun n p wr => ∃ (j u k : Nat) (xs' : List Int) (ao : Option Addr) (bs : List Int), n = wd - j ∧ j ≤ wd ∧ p = .slice ao (wd - j) (8 - j) ∧ (j < wd → ao = some ⟨C, 8 + j, none⟩) ∧ bs.length = j ∧
      (∀ x ∈ bs, 0 ≤ x ∧ x ≤ 255) ∧ stream xs 0 xss 0 = bs ++ stream xs' u xss k ∧ St B C R g cap ea vs xss wr u k xs' size j (bs.map (Value.int .u8) ++ ds.drop j) ∧ Only w.heap.size [C, R] w wr)
  case atStart =>
    refine ⟨0, 0, 0, xs, _, [], by simp, by omega, rfl, fun _ => rfl, rfl, by simp, rfl, ?_, (by repeat (first | exact Only.refl _ _ _ | apply Only.drewN))⟩
    obtain ⟨⟨a, c, hC, hrun⟩, ⟨calls, hR⟩, h1, h2, h3, h4, h5, h6, h7, h8, h9, h10, h11, h12, h13, h14⟩ := H.out
    exact ⟨⟨a, c, hC.keep rfl, hrun.only ((by repeat (first | exact Only.refl _ _ _ | apply Only.drewN)))⟩, ⟨calls, hR.keep rfl⟩, h1.only ((by repeat (first | exact Only.refl _ _ _ | apply Only.drewN))), h2, h3, h4, h5, h6, h7, h8, h9, h10, h11, h12, h13, h14⟩
  case round =>
    obtain ⟨j, u, k, xs', ao, bs, hgk, hj, rfl, hao, hbl, hby, hst, hSt, ho⟩ := hrel
    have HB : Hid (bs.length = j ∧ (∀ x ∈ bs, 0 ≤ x ∧ x ≤ 255) ∧ stream xs 0 xss 0 = bs ++ stream xs' u xss k) := ⟨hbl, hby, hst⟩
    have HG : Hid (gk = wd - j) := hgk
    have HS : Hid (St B C R g cap ea vs xss wr u k xs' size j (bs.map (Value.int .u8) ++ ds.drop j)) := hSt
    have HO : Hid (Only w.heap.size [C, R] w wr) := ho
    have hFr : F.answers wr.tape := by rw [ho.tape]; exact HF.out
    clear hgk hbl hby hst hSt ho q0 q1 q2 q3 q4 q5 q6
    by_cases hlt : j < wd
    · obtain rfl := hao hlt
      clear hao
      have e1 : 0 < wd - j := by omega
      go_wp2_with fail
      refine (take_any F (wd - j) hFr HS.out (by omega) (by omega) (by omega) (by omega)).mono ?_
      rintro e w1 ⟨ho1, hcase⟩
      have HO1 : Hid (Only w.heap.size [C, R] w w1) := HO.out.trans (ho1.mono HO.out.size)
      rcases hcase with ⟨p, bs2, u', k', xs'', hb0, hbn, hst2, hSt2, hrun2, rfl⟩ | ⟨hst0, x, rfl⟩
      · obtain ⟨hby2, hrr⟩ := id hrun2
        rcases hrr with ⟨h0, _⟩ | ⟨b, o, c2, hv, hlc, _, hbB, hbS, hcell⟩
        · rw [h0] at hb0; simp at hb0
        subst hv
        obtain ⟨ca, cc, hC2, hrunc⟩ := hSt2.cont
        obtain ⟨w2, hcp, ho2, hC3⟩ := copy_data hC2 j (wd - j) (8 - j) b o bs2.length c2 bs2 (by omega) (by omega) hcell
        have hdl : (bs.map (Value.int .u8)).length = j := by simpa using HB.out.1
        have HL : Hid (Cont w2 C R (.slice ca xs''.length cc) u' size ((j + bs2.length : Nat) : Int) ((bs ++ bs2).map (Value.int .u8) ++ ds.drop (j + bs2.length))) := by
          have h1 : (bs.map (Value.int .u8) ++ ds.drop j).take j = bs.map (Value.int .u8) := by rw [List.take_append_of_le_length (by omega), List.take_of_length_le (by omega)]
          have h2 : (bs.map (Value.int .u8) ++ ds.drop j).drop (j + bs2.length) = ds.drop (j + bs2.length) := by
            rw [List.drop_append, List.drop_eq_nil_of_le (by omega), hdl, List.nil_append, List.drop_drop]
            congr 1
            omega
          rw [h1, h2] at hC3
          rw [List.map_append, show ((j + bs2.length : Nat) : Int) = (j : Int) + (bs2.length : Int) from by omega]
          exact hC3
        have HT : Hid (stream xs' u xss k = bs2 ++ stream xs'' u' xss k') := hst2
        have HY : Hid (∀ x ∈ bs2, 0 ≤ x ∧ x ≤ 255) := hby2
        have HS2 : Hid (St B C R g cap ea vs xss w1 u' k' xs'' size ((j : Int) + (bs2.length : Int)) (bs.map (Value.int .u8) ++ ds.drop j)) := hSt2
        have HO2 : Hid (Only w1.heap.size [C] w1 w2) := ho2
        have HR2 : Hid (Run B [C, R] w1 (.slice ca xs''.length cc) xs'') := hrunc
        clear hdl hst2 hby2 hSt2 hC2 hC3 ho2 hrunc hrun2 hcell ho1
        go_wp2
        all_goals
          go_roundg (wd - (j + bs2.length))
          case measure => rw [HG.out]; omega
          case rel =>
            refine ⟨j + bs2.length, u', k', xs'', _, bs ++ bs2, rfl, by omega, by first | rw [Nat.sub_sub, show 8 - (j + bs2.length) = 0 from by omega] | rw [Nat.sub_sub, Nat.sub_sub], fun h => ?_, ?_, ?_, ?_, ?_, ?_⟩
            · first | omega | rw [Nat.add_assoc]
            · rw [List.length_append, HB.out.1]
            · intro x hx
              rcases List.mem_append.1 hx with hx | hx
              · exact HB.out.2.1 x hx
              · exact HY.out x hx
            · rw [HB.out.2.2, HT.out, List.append_assoc]
            · obtain ⟨_, ⟨calls, hR⟩, h1, h2, h3, h4, h5, h6, h7, h8, h9, h10, h11, h12, h13, h14⟩ := HS2.out
              have hoo : Only B [C, R] w1 w2 := (HO2.out.wider (by simp)).mono h7
              exact ⟨⟨ca, cc, HL.out, HR2.out.only hoo⟩, ⟨calls, hR.keep (HO2.out.block R hR.lt (by simpa using Ne.symm h12))⟩, h1.only hoo, h2, h3, h4, h5, h6, Nat.le_trans h7 hoo.size, (hoo.cell (p := ⟨1, 0, none⟩) h9 (by simp [Ne.symm h10, Ne.symm h11])).trans h8, h9, h10, h11, h12, h13, h14⟩
            · exact HO1.out.trans ((HO2.out.wider (by simp)).mono HO1.out.size)
      · have HZ : Hid ((stream xs 0 xss 0).length < wd) := by
          unfold Hid
          rw [HB.out.2.2, hst0, List.append_nil, HB.out.1]
          exact hlt
        clear ho1 hst0
        go_wp2
        go_ret
        exact ⟨HO1.out, .inr ⟨⟨x, rfl⟩, HZ.out⟩⟩
    · obtain rfl : j = wd := by omega
      go_wp2
      go_ret
      obtain ⟨ca, cc, hC2, _⟩ := HS.out.cont
      exact ⟨HO.out, .inl ⟨rfl, bs, stream xs' u xss k, _, _, _, HB.out.1, HB.out.2.2, HB.out.2.1, hC2⟩⟩

end Go.Proofs.YbulkbobcFmt
