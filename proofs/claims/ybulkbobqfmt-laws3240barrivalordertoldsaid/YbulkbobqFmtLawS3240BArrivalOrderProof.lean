/-
  The proof of 'Rows.LawS3240BArrivalOrderToldSaid': the frame after the guide's 10.14 and 10.16; the walk: YbulkbobqFmtLaw3.
-/
import Derived.Test.YbulkbobqFmtFrame
import Derived.Test.YbulkbobqFmtLaw3
import Derived.OpenShut
import Derived.ChangeOld
import Derived.Deep.Slices
import Derived.Stop.JoinedAt
import Derived.Stop.JoinedTold
import Derived.SevenTiedAt
namespace Go.Proofs.YbulkbobqFmt
open Go.ChangeShapes Go.WideShapes Go.ChangeAt Go.RowKit Go.Deep
open Go.Extern.Stop Go.Stop Go.Extern

theorem Ybaf.cells37 : Ybaf.prog.cellsOf 37 = 3 := by kernel_rfl
theorem Ybaf.cells26 : Ybaf.prog.cellsOf 26 = 1 := by kernel_rfl

/-- The slice of drawn messages, opened. -/
theorem open_msgs {H : Type} {enc : TypeId × Value → H} {W : World} {base b0 : Nat} {sp : Nat → Bool} {held : Bool} {r : Reach} {v : Value} {d : DataW H} {p : List MemPlace} (hv : Value.okWide Ybaf.prog W r b0 22 v) (h : DataW.Trod enc Ybaf.prog W base sp held 22 v d p) :
    ∃ (ad : Option Addr) (cap : Nat) (ms : List (Nat × Int × Int)), v = .slice ad ms.length cap ∧ Src3 W ad ms := by
  obtain ⟨a0, len0, cap0, rfl⟩ := okWide_slice Ybaf.underlying22 hv
  obtain ⟨fuel, hf⟩ := h
  rcases open_slice Ybaf.underlying22 hf with ⟨hcs, _⟩ | ⟨x, l, c, m, n, D, Pl, hcs, _, hl, hm, hmm, _, hx⟩
  · simp [Value.cells] at hcs
    obtain ⟨rfl, rfl, rfl⟩ := hcs
    exact ⟨none, 0, [], rfl, by simp, fun h => absurd rfl h⟩
  · simp [Value.cells] at hcs
    obtain ⟨rfl, rfl, rfl⟩ := hcs
    have hlm : len0 ≤ m := by rw [hmm]; split <;> omega
    have each : ∀ i, i < len0 → ∃ q : Nat × Int × Int, W.cell? (x.add (i * 3)) = some (.int .u8 q.1) ∧ W.cell? (x.add (i * 3 + 1)) = some (.int .u64 q.2.1) ∧ W.cell? (x.add (i * 3 + 2)) = some (.int .u64 q.2.2) ∧ q.1 < 256 ∧ (0 ≤ q.2.1 ∧ q.2.1 < 18446744073709551616) ∧ 0 ≤ q.2.2 ∧ q.2.2 < 18446744073709551616 := by
      intro i hi
      obtain ⟨cs', h1, h2⟩ := hx i (by omega)
      rw [Ybaf.cells37] at h1
      obtain ⟨_, hlen, hcell⟩ := World.cells?_some h1
      obtain ⟨xs, k, hk, hxy, _, hxl, hfd⟩ := DataW.trod_struct Ybaf.underlying37 h2
      match xs, hxl, cs', hlen with
      | [y0, y1, y2], _, [v0, v1, v2], _ =>
        have g0 := hfd 0 _ rfl
        have g1 := hfd 1 _ rfl
        have g2 := hfd 2 _ rfl
        simp [Ybaf.cells5, Ybaf.cells26] at g0 g1 g2
        obtain ⟨z0, e0, _, w0⟩ := DataW.trod_int Ybaf.underlying5 g0
        obtain ⟨z1, e1, _, w1⟩ := DataW.trod_int Ybaf.underlying26 g1
        obtain ⟨z2, e2, _, w2⟩ := DataW.trod_int Ybaf.underlying26 g2
        have b0 := bounds_u8 w0
        have b1 := bounds_u64 w1
        have b2 := bounds_u64 w2
        obtain ⟨n0, rfl⟩ := Int.eq_ofNat_of_zero_le b0.1
        have f0 := hcell 0 (by omega)
        have f1 := hcell 1 (by omega)
        have f2 := hcell 2 (by omega)
        rw [add_add] at f0 f1 f2
        simp at e0 e1 e2
        subst e0 e1 e2
        exact ⟨(n0, z1, z2), by simpa using f0, by simpa using f1, by simpa using f2, by simp; omega, ⟨b1.1, by simp; omega⟩, b2.1, by simp; omega⟩
    obtain ⟨q, hq⟩ := choose_lt each
    refine ⟨some x, cap0, (List.range len0).map q, by simp, fun r hr => ?_, fun hne => ?_⟩
    · simp only [List.mem_map, List.mem_range] at hr
      obtain ⟨i, hi, rfl⟩ := hr
      exact (hq i hi).2.2.2
    · have h0 : 0 < len0 := by
        rcases Nat.eq_zero_or_pos len0 with e | e
        · rw [e] at hne; simp at hne
        · exact e
      obtain ⟨b, off, spot⟩ := x
      have h00 := (hq 0 h0).1
      have hspot : spot = none := by simpa [Addr.add] using World.cell?_spot h00
      subst hspot
      refine ⟨b, off, rfl, World.block_lt_of_cell? W _ h00, fun i hi => ?_⟩
      have hi' : i < len0 := by simpa using hi
      obtain ⟨c0, c1, c2, _⟩ := hq i hi'
      have ha : ∀ k, (⟨b, off, none⟩ : Addr).add k = ⟨b, off + k, none⟩ := fun k => by unfold Addr.add; split <;> simp_all
      rw [ha] at c0 c1 c2
      simp only [List.getElem_map, List.getElem_range]
      exact ⟨c0, by rw [Nat.add_assoc]; exact c1, by rw [Nat.add_assoc]; exact c2⟩

set_option maxRecDepth 100000 in
theorem law3_lifted (os : Os) (started : os.Started) (H : Type) (enc : TypeId × Value → H) :
    ReturnsInTold none {} Ybaf.checked os 3 .any Input.okWide ((OpenSpec.ofChange Rows.lawS3240BArrivalOrderSpec).preRow enc Ybaf.prog Ybaf.f3 [] false Rows.lawS3240BArrivalOrderRow.laid) (fun F => ((OpenSpec.ofChange Rows.lawS3240BArrivalOrderSpec).at F).post enc Ybaf.prog Ybaf.f3 false true false false) (aloneAtReturn Ybaf.prog) nothingAlways := by
  refine returnsInTold_of_row (C := Ybaf.checked) (s := OpenSpec.ofChange Rows.lawS3240BArrivalOrderSpec) (by kernel_rfl) Ybaf.own started (by kernel_rfl) Ybaf.func3
    (OpenSpec.witness_stopped_at (enc := enc) (C := Ybaf.checked) false (laidWorld Ybaf.prog os) #[.int .u8 0, .int .u8 0, .bool false, .slice none 0 0] rfl (by kernel_rfl) (by kernel_rfl) (by kernel_rfl)
      (OpenSpec.preRow_of_B rfl 8 (by kernel_rfl) (by kernel_rfl) (laid_met os _))) ?_
  intro F W base args ds gs before _ hF hval0 hW _ _ _ hL _
  have hval : ∀ (j : Nat) t v, Ybaf.f3.params[j]? = some t → args[j]? = some v → Value.okWide Ybaf.prog W .any base t v := hval0
  have hW' := hW
  obtain ⟨p, q, hA0, hV, rfl, hfz, hnd⟩ := hW
  have hA : DataW.TrodAll enc Ybaf.prog W 0 (fun _ => true) true Ybaf.f3.params.toList args.toList ds p := hA0
  rw [Ybaf.params3] at hA hval
  obtain ⟨v0, vs0, d0, ds0, p0, q0, hargs, rfl, rfl, h0, r0⟩ := trodAll_cons hA
  obtain ⟨v1, vs1, d1, ds1, p1, q1, rfl, rfl, rfl, h1, r1⟩ := trodAll_cons r0
  obtain ⟨v2, vs2, d2, ds2, p2, q2, rfl, rfl, rfl, h2, r2⟩ := trodAll_cons r1
  obtain ⟨v3, vs3, d3, ds3, p3, q3, rfl, rfl, rfl, h3, r3⟩ := trodAll_cons r2
  obtain ⟨rfl, rfl, rfl⟩ := trodAll_nil r3
  obtain rfl : args = #[v0, v1, v2, v3] := by cases args; simp_all
  obtain ⟨rfl, rfl⟩ := trodVars_none hV
  have hT : Tab W := tab_of_laid hL
  have k3 := h3
  have lt3 : ∀ x ∈ p3, x.block < W.heap.size := by obtain ⟨m, hm⟩ := k3; exact DataW.trod_lt m _ _ _ hm
  obtain ⟨a0, rfl, rfl, rfl, w0⟩ := open_int Ybaf.underlying5 (hval 0 5 v0 rfl rfl) h0
  obtain ⟨a1, rfl, rfl, rfl, w1⟩ := open_int Ybaf.underlying5 (hval 1 5 v1 rfl rfl) h1
  obtain ⟨b2, rfl, rfl, rfl⟩ := open_bool Ybaf.underlying4 (hval 2 4 v2 rfl rfl) h2
  obtain ⟨ad, cap, ms, rfl, hms⟩ := open_msgs (hval 3 22 v3 rfl rfl) h3
  clear hA0 hval0
  have e0 := bounds_u8 w0
  have e1 := bounds_u8 w1
  obtain ⟨n0, rfl⟩ := Int.eq_ofNat_of_zero_le e0.1
  obtain ⟨n1, rfl⟩ := Int.eq_ofNat_of_zero_le e1.1
  refine (law3 n0 n1 b2 ad cap ms W (by omega) (by omega) hT hms).mono fun e W' ⟨he, bel⟩ => ?_
  subst he
  exact ⟨_, rfl, _, _, _, [], _, [], hW', trodAll_mk1 (shut_bool Ybaf.underlying4 _), (trodAll_cons_mk (shut_int Ybaf.underlying5 w0) (trodAll_cons_mk (shut_int Ybaf.underlying5 w1) (trodAll_cons_mk (shut_bool Ybaf.underlying4 _) (trodAll_cons_mk (Below.trod Ybaf.laidOut (by kernel_rfl) (of_decide_eq_true (by kernel_rfl)) k3 bel lt3) trodAll_mk0)))), rfl, bel.frame _, fun h => by cases h⟩

theorem Ybaf.stops3 : Ybaf.pinned.checked.prog.stops = Rows.lawS3240BArrivalOrderRow.stops := by kernel_rfl

/-- THE STATEMENT. -/
theorem lawS3240BArrivalOrder_proved : Rows.LawS3240BArrivalOrderToldSaid :=
  Claim7.holds_of_told_tied_any_at .later 3 Ybaf.f3 _ _ [] _ _ _ _ _ (by kernel_rfl) rfl rfl rfl Ybaf.laidOut (by kernel_rfl) rfl ⟨rfl, rfl, rfl, rfl, rfl, rfl, rfl⟩ rfl rfl (by kernel_rfl) (by kernel_rfl) Ybaf.func3 (by kernel_rfl)
    (of_decide_eq_true (by kernel_rfl)) (by unfold Func.isWrapper; first | (rw [if_pos (by decide +kernel)]; kernel_rfl) | (rw [if_neg (by decide +kernel)]; exact ⟨rfl, rfl⟩)) Ybaf.stops3.symm rfl Ybaf.stopKnobs.symm (by kernel_rfl)
    (by kernel_rfl) (by kernel_rfl) (by kernel_rfl) (by kernel_rfl) (by kernel_rfl) (by kernel_rfl) (by kernel_rfl) (by kernel_rfl) (by kernel_rfl) rfl (by kernel_rfl) rfl rfl
    rfl rfl
    rfl (by kernel_rfl) (by kernel_rfl) (by kernel_rfl) (by decide) (by kernel_rfl) lawS3240BArrivalOrder_row_tie
    (OpenClaim.moreEntering_of (by kernel_rfl) (by kernel_rfl) (by kernel_rfl) (by kernel_rfl) (by kernel_rfl) (by kernel_rfl) (by kernel_rfl) (by kernel_rfl) (by kernel_rfl) (by kernel_rfl))
    ⟨_, WideRow.started_initial, Ybaf.quiet _⟩
    (fun os started _ H enc _ => law3_lifted os started H enc)

end Go.Proofs.YbulkbobqFmt
