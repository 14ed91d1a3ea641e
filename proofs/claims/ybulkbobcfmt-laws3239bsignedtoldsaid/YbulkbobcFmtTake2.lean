/-
  The contract of take, where the run at hand is read to its end.
-/
import Derived.Test.YbulkbobcFmtTake
namespace Go.Proofs.YbulkbobcFmt
open Go.Extern.Stop Go.Stop Go.Extern Go.RowKit

theorem rd_C {w : World} {C R g m cap : Nat} {k calls : Int} (h : Rd w R g m cap k calls) (hCR : C ≠ R) (o : Nat) (v : Value) : Rd (w.setCell ⟨C, o, none⟩ v) R g m cap k calls :=
  h.keep (Below.heap_setCell _ _ _ _ (Ne.symm hCR))

set_option maxRecDepth 100000 in
set_option maxHeartbeats 2000000 in
theorem take_next (F : Interp) (C R g cap k rl rc n : Nat) (calls size pos : Int) (ra : Option Addr) (ea : Addr) (vs : List Value) (xss : List (List Int)) (ds : List Value) (w : World) (hF : F.answers w.tape)
    (hC : Cont w C R (.slice ra rl rc) rl size pos ds)
    (hR : Rd w R g xss.length cap k calls) (hk : k ≤ xss.length) (hm : xss.length ≤ 2000) (hml : ∀ i, (xss.getD i []).length ≤ 2000) (B : Nat) (hB : B ≤ w.heap.size) (hr : Runs B [C, R] w g vs xss) (he : w.cell? ⟨1, 0, none⟩ = some (.iface 65 (.pointer (some ea))))
    (hR1 : R ≠ 1) (hC1 : C ≠ 1) (hCR : C ≠ R) (hn : 1 ≤ n) (hn8 : n ≤ 8) (hp : 0 ≤ pos) (hp8 : pos ≤ 100) :
    Calls Ybaf.prog 14 #[.pointer (some ⟨C, 0, none⟩), .int .u64 n] w fun e w' => ∃ (k' : Nat) (calls' : Int), Only w.heap.size [C, R] w w' ∧ Rd w' R g xss.length cap k' calls' ∧
      ((∃ j b o c m, k ≤ j ∧ j < xss.length ∧ k' = j + 1 ∧ (∀ i, k ≤ i → i < j → xss.getD i [] = []) ∧ m = min n (xss.getD j []).length ∧ 0 < (xss.getD j []).length ∧ Run B [C, R] w (.slice (some ⟨b, o, none⟩) (xss.getD j []).length c) (xss.getD j []) ∧
          (∀ i, i < (xss.getD j []).length → w.cell? ⟨b, o + i, none⟩ = some (.int .u8 ((xss.getD j []).getD i 0))) ∧ b < B ∧ b ∉ [C, R] ∧ (xss.getD j []).length ≤ c ∧
          e = .returned (.tuple #[.slice (some ⟨b, o, none⟩) m c, .nilIface]) ∧ Cont w' C R (.slice (some ⟨b, o, none⟩) (xss.getD j []).length c) m size (pos + m) ds) ∨
       ((∀ i, k ≤ i → i < xss.length → xss.getD i [] = []) ∧ ∃ x, e = .returned (.tuple #[.slice none 0 0, .iface 59 (.pointer (some x))]))) := by
  obtain ⟨q0, q1, q2, q3, q4, q5, q6⟩ := hC.cells
  have f2 := hC.free 2
  have f3 := hC.free 3
  have f5 := hC.free 5
  have hbb : ((rl : Int) == (rl : Int)) = true := by simp
  have hb1 : 1 < w.heap.size := World.block_lt_of_cell? _ _ he
  go_enter Ybaf.func14, Ybaf.ntmps14
  go_wp2
  go_quiet (fail)
  go_wp2
  rw [method28 _ (by kernel_rfl)]
  go_wp2_with fail
  have HC1 : Hid (Cont ((w.drewN nq).setCell ⟨C, 3, none⟩ (.int .i64 0)) C R (.slice ra rl rc) 0 size pos ds) := Cont.setUsed (hC.keep rfl) 0
  have ho1 : Only w.heap.size [C, R] w ((w.drewN nq).setCell ⟨C, 3, none⟩ (.int .i64 0)) := ((Only.refl _ _ _).drewN _).setCell (by simp) _
  have hsz : ((w.drewN nq).setCell ⟨C, 3, none⟩ (.int .i64 0)).heap.size = w.heap.size := by simp [World.setCell, World.drewN]
  generalize hW : (w.drewN nq).setCell ⟨C, 3, none⟩ (.int .i64 0) = W at *
  have HW : Hid (_ = _) := hW
  clear hW
  refine (nextRun_any R g cap k calls (.iface 65 (.pointer (some ea))) vs xss W ?_ hk hm B [C, R] (by simp) (by rw [hsz]; exact hB) ?_ ?_ hR1).mono ?_
  · exact hR.keep (by rw [← HW.out]; exact Below.heap_setCell _ _ _ _ (Ne.symm hCR))
  · exact hr.only (ho1.mono hB)
  · exact (ho1.cell (p := ⟨1, 0, none⟩) hb1 (by simp [Ne.symm hR1, Ne.symm hC1])).trans he
  rintro e w1 ⟨k', calls', ho2, hRd, hcases⟩
  have ho3 : Only w.heap.size [C, R] w w1 := ho1.trans ((ho2.wider (by simp)).mono (by rw [hsz]; exact Nat.le_refl _))
  have hC2 : Cont w1 C R (.slice ra rl rc) 0 size pos ds := HC1.out.keep (ho2.block C (by rw [hsz]; exact hC.lt) (by simpa using hCR))
  clear q0 q1 q2 q3 q4 q5 q6 f2 f3 f5
  obtain ⟨q0, q1, q2, q3, q4, q5, q6⟩ := hC2.cells
  have f2 := hC2.free 2
  have f3 := hC2.free 3
  have f5 := hC2.free 5
  rcases hcases with ⟨j, a, c, hj1, hj2, hk', hE, hpos, hrun, rfl⟩ | ⟨hk', hE, rfl⟩
  · obtain ⟨hby, hrr⟩ := id hrun
    rcases hrr with ⟨h0, _⟩ | ⟨b, o, c2, hv, hlc, _, hbB, hbS, hcell⟩
    · rw [h0] at hpos; simp at hpos
    obtain ⟨rfl, rfl⟩ : a = some ⟨b, o, none⟩ ∧ c = c2 := by simpa using hv
    have HX : Hid (∀ (m : Nat) (e : Ending) (w' : World), Rd w' R g xss.length cap (j + 1 : Nat) calls' → Only w.heap.size [C, R] w w' → m = min n (xss.getD j []).length → e = .returned (.tuple #[.slice (some ⟨b, o, none⟩) m c, .nilIface]) → Cont w' C R (.slice (some ⟨b, o, none⟩) (xss.getD j []).length c) m size (pos + m) ds →
        ∃ (k' : Nat) (calls' : Int), Only w.heap.size [C, R] w w' ∧ Rd w' R g xss.length cap k' calls' ∧
      ((∃ j b o c m, k ≤ j ∧ j < xss.length ∧ k' = j + 1 ∧ (∀ i, k ≤ i → i < j → xss.getD i [] = []) ∧ m = min n (xss.getD j []).length ∧ 0 < (xss.getD j []).length ∧ Run B [C, R] w (.slice (some ⟨b, o, none⟩) (xss.getD j []).length c) (xss.getD j []) ∧
          (∀ i, i < (xss.getD j []).length → w.cell? ⟨b, o + i, none⟩ = some (.int .u8 ((xss.getD j []).getD i 0))) ∧ b < B ∧ b ∉ [C, R] ∧ (xss.getD j []).length ≤ c ∧
          e = .returned (.tuple #[.slice (some ⟨b, o, none⟩) m c, .nilIface]) ∧ Cont w' C R (.slice (some ⟨b, o, none⟩) (xss.getD j []).length c) m size (pos + m) ds) ∨
       ((∀ i, k ≤ i → i < xss.length → xss.getD i [] = []) ∧ ∃ x, e = .returned (.tuple #[.slice none 0 0, .iface 59 (.pointer (some x))])))) := by
      intro m e w' h1 h2 h3 h4 h5
      have hrun' : Run B [C, R] w (.slice (some ⟨b, o, none⟩) (xss.getD j []).length c) (xss.getD j []) := by
        refine ⟨hby, .inr ⟨b, o, c, rfl, hlc, hpos, hbB, hbS, ?_⟩⟩
        intro i hi
        exact (ho1.cell (p := ⟨b, o + i, none⟩) (by show b < w.heap.size; omega) hbS).symm.trans (hcell i hi)
      exact ⟨j + 1, calls', h2, h1, .inl ⟨j, b, o, c, m, hj1, hj2, rfl, hE, h3, hpos, hrun', fun i hi => (ho1.cell (p := ⟨b, o + i, none⟩) (by show b < w.heap.size; omega) hbS).symm.trans (hcell i hi), hbB, hbS, hlc, h4, h5⟩⟩
    have hL := hml j
    subst hk'
    have HO : Hid (Only w.heap.size [C, R] w w1) := ho3
    have HR : Hid (Rd w1 R g xss.length cap (j + 1 : Nat) calls') := hRd
    have HCC : Hid (Cont w1 C R (.slice ra rl rc) 0 size pos ds) := hC2
    generalize (xss.getD j []).length = L at *
    clear hE ho3 hRd hC2 hr hR hC ho1 ho2 HC1 HW hsz he hF hrun hv hcell hml hby
    obtain ⟨m, hm⟩ : ∃ m, m = min n L := ⟨_, rfl⟩
    have HM : Hid (m = min n L) := hm
    clear hm
    rcases Nat.lt_or_ge L n with hge | hle
    · obtain rfl : m = L := by have := HM.out; omega
      have e5 : (m : Int) < (n : Int) := by omega
      go_wp2
      go_quiet (fail)
      go_wp2
      go_ret2
      exact HX.out m _ _ (rd_C (rd_C (Rd.keep (rd_C HR.out hCR _ _) rfl) hCR _ _) hCR _ _) (by repeat (first | exact HO.out | apply Only.drewN | refine Only.setCell ?_ (by simp) _)) HM.out rfl (Cont.setPos (Cont.setUsed (Cont.keep (Cont.setRun HCC.out _) rfl) _) _)
    · obtain rfl : m = n := by have := HM.out; omega
      have e5 : (m : Int) ≤ (L : Int) := by omega
      go_wp2
      go_quiet (fail)
      go_wp2
      go_ret2
      exact HX.out m _ _ (rd_C (rd_C (Rd.keep (rd_C HR.out hCR _ _) rfl) hCR _ _) hCR _ _) (by repeat (first | exact HO.out | apply Only.drewN | refine Only.setCell ?_ (by simp) _)) HM.out rfl (Cont.setPos (Cont.setUsed (Cont.keep (Cont.setRun HCC.out _) rfl) _) _)
  · have HE : Hid (∀ i, k ≤ i → i < xss.length → xss.getD i [] = []) := hE
    have HO : Hid (Only w.heap.size [C, R] w w1) := ho3
    have HR : Hid (Rd w1 R g xss.length cap k' calls') := hRd
    have HCC : Hid (Cont w1 C R (.slice ra rl rc) 0 size pos ds) := hC2
    have hF1 : F.answers w1.tape := by rw [ho3.tape]; exact hF
    have he1 : w1.cell? ⟨1, 0, none⟩ = some (.iface 65 (.pointer (some ea))) := (ho3.cell (p := ⟨1, 0, none⟩) hb1 (by simp [Ne.symm hR1, Ne.symm hC1])).trans he
    have hCl : C < w1.heap.size := hC2.lt
    clear hE ho3 hRd hC2 hr hR hC ho1 ho2 HC1 HW hsz he hF hk'
    go_wp2_with fail
    refine (fail_eof F C ⟨#[108, 105, 115, 116, 112, 97, 99, 107]⟩ size pos ea _ ?_ ?_ ?_ ?_ ?_ ?_ ?_).mono ?_
    · exact hF1
    · simpa [World.setCell] using hCl
    · go_simp
    · go_simp
    · go_simp
    · go_simp
    · go_simp
    rintro e w2 ⟨⟨x, rfl⟩, hb2⟩
    go_wp2
    go_ret2
    refine ⟨k', calls', ?_, ?_, .inr ⟨HE.out, x, rfl⟩⟩
    · exact (HO.out.setCell (p := ⟨C, 2, none⟩) (by simp) _).trans (Only.ofBelow (hb2.mono (by have := HO.out.size; simpa [World.setCell] using this)))
    · exact HR.out.keep ((hb2.block R (by have := HR.out.lt; simpa [World.setCell] using this)).trans (Below.heap_setCell _ _ _ _ (Ne.symm hCR)))

end Go.Proofs.YbulkbobcFmt
