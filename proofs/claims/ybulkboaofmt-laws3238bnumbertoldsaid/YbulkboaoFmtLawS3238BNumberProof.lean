/-
  The proof of 'Rows.LawS3238BNumberToldSaid': the frame after the guide's 10.14 (LabelTold, HexbadSeven); the walk: YbulkboaoFmtLaw.
-/
import Derived.Test.YbulkboaoFmtCards
import Derived.Test.YbulkboaoFmtLaw
import Derived.ProofKit
import Derived.OpenShut
import Derived.ShutString
import Derived.ChangeOld
import Derived.SliceStrings
import Derived.Stop.JoinedAt
import Derived.Stop.Texts
import Derived.Stop.JoinedTold
import Derived.SizedLaws
import Derived.SevenToldRow
namespace Go.Proofs.YbulkboaoFmt
open Go.ChangeShapes Go.WideShapes Go.ChangeAt Go.RowKit
open Go.Extern.Stop Go.Stop Go.Extern

theorem Ybaf.own : ownKnob Ybaf.prog.godebug = none := by kernel_rfl
theorem Ybaf.laidOut : laidOutB Ybaf.prog = true := by kernel_rfl
theorem Ybaf.cells9 : Ybaf.prog.cellsOf 9 = 1 := by kernel_rfl
theorem Ybaf.cells5 : Ybaf.prog.cellsOf 5 = 1 := by kernel_rfl
theorem Ybaf.bytes5 : Ybaf.prog.bytesOf 5 = 1 := by kernel_rfl
theorem Ybaf.bytes9 : Ybaf.prog.bytesOf 9 = 16 := by kernel_rfl

/-- Each string of a slice of strings that was read lies within the reach. -/
theorem weights_strs {H : Type} (P : Program) (e : TypeId) : ∀ (ss : List ByteArray) (s : ByteArray), s ∈ ss → s.data.toList.length ∈ DataW.weightsAll (H := H) P e (strs ss)
  | [], _, h => absurd h (by simp)
  | x :: ss, s, h => by
    rcases List.mem_cons.1 h with rfl | h
    · simp [strs, DataW.weightsAll, DataW.weights]
    · have := weights_strs (H := H) P e ss s h
      simp only [strs, List.map_cons, DataW.weightsAll]
      exact List.mem_append_right _ this

theorem sized_strs {H : Type} {P : Program} {ts : List TypeId} {ds : List (DataW H)} (h : (DataW.weightsEach P ts ds).all (· ≤ reachBytes) = true) {j : Nat} {t e : TypeId} {A B : List ByteArray}
    (ht : ts[j]? = some t) (hd : ds[j]? = some (.slice (strs A) (strs B))) (hu : P.underlying t = some (.slice e)) (s : ByteArray) (hs : s ∈ A) : s.data.toList.length ≤ reachBytes := by
  have hm := weights_strs (H := H) P e A s hs
  have := DataW.weights_mem_each (P := P) ht hd s.data.toList.length (by
    simp only [DataW.weights, hu]
    exact List.mem_cons_of_mem _ (List.mem_append_left _ hm))
  simpa using (List.all_eq_true.1 h) _ this

set_option maxRecDepth 100000 in
theorem law_lifted (os : Os) (started : os.Started) (H : Type) (enc : TypeId × Value → H) :
    ReturnsInTold none {} Ybaf.checked os 3 .any Input.okWide ((OpenSpec.ofChange Rows.lawS3238BNumberSpec).preRow enc Ybaf.prog Ybaf.f3 [] false []) (fun F => ((OpenSpec.ofChange Rows.lawS3238BNumberSpec).at F).post enc Ybaf.prog Ybaf.f3 false true false false) (aloneAtReturn Ybaf.prog) nothingAlways := by
  refine returnsInTold_of_row (C := Ybaf.checked) (s := OpenSpec.ofChange Rows.lawS3238BNumberSpec) (by kernel_rfl) Ybaf.own started (by kernel_rfl) Ybaf.func3
    (OpenSpec.witness_stopped (enc := enc) (C := Ybaf.checked) false ⟨#[], #[.slice none 0 0, .slice none 0 0, .int .i64 0, .int .u64 0], []⟩ 8 (by kernel_rfl) (by kernel_rfl) (by kernel_rfl) (by kernel_rfl)) ?_
  intro F W base args ds gs before _ hF hval0 hW _ _ hsz0 _ _
  have hval : ∀ (j : Nat) t v, Ybaf.f3.params[j]? = some t → args[j]? = some v → Value.okWide Ybaf.prog W .any base t v := hval0
  have hW' := hW
  obtain ⟨p, q, hA0, hV, rfl, hfz, hnd⟩ := hW
  have hA : DataW.TrodAll enc Ybaf.prog W 0 (fun _ => true) true Ybaf.f3.params.toList args.toList ds p := hA0
  rw [Ybaf.params3] at hA hval
  obtain ⟨v0, vs0, d0, ds0, p0, q0, hargs, rfl, rfl, h0, r0⟩ := trodAll_cons hA
  obtain ⟨v1, vs1, d1, ds1, p1, q1, rfl, rfl, rfl, h1, r1⟩ := trodAll_cons r0
  obtain ⟨v2, vs2, d2, ds2, p2, q2, rfl, rfl, rfl, h2, r2⟩ := trodAll_cons r1
  obtain ⟨v3, vs3, d3, ds3, p3, q3, rfl, rfl, rfl, h3, r3⟩ := trodAll_cons r2
  obtain ⟨rfl, rfl, rfl⟩ := trodAll_nil r3
  obtain rfl : args = #[v0, v1, v2, v3] := by cases args; simp_all
  obtain ⟨rfl, rfl⟩ := trodVars_none hV
  have hsz : (DataW.weightsEach Ybaf.prog [22, 23, 3, 24] [d0, d1, d2, d3]).all (· ≤ reachBytes) = true := hsz0
  obtain ⟨a0, len0, cap0, rfl⟩ := okWide_slice Ybaf.underlying22 (hval 0 22 v0 rfl rfl)
  have k0 := h0
  have lt0 : ∀ x ∈ p0, x.block < W.heap.size := by obtain ⟨m, hm⟩ := k0; exact DataW.trod_lt m _ _ _ hm
  have hr47 := reachBytes_lt
  have w0 : len0 ≤ 140737488355328 ∧ (0 < len0 → ∃ b off, a0 = some ⟨b, off, none⟩ ∧ b < W.heap.size ∧ ∀ i, i < len0 → ∃ z : Int, 0 ≤ z ∧ z ≤ 255 ∧ W.cell? ⟨b, off + i, none⟩ = some (.int .u8 z)) := by
    obtain ⟨fuel, hf⟩ := h0
    rcases open_ints Ybaf.underlying22 Ybaf.underlying5 Ybaf.cells5 hf with ⟨hcs, _⟩ | ⟨x, l, c, zs, hcs, _, hl, hm, hz, hd, hcell, hwz⟩
    · simp [Value.cells] at hcs
      obtain ⟨rfl, rfl, rfl⟩ := hcs
      exact ⟨by omega, fun h => absurd h (by omega)⟩
    · simp [Value.cells] at hcs
      obtain ⟨rfl, rfl, rfl⟩ := hcs
      have hz' : zs.length = cap0 := by simpa using hz
      simp only [Prod.mk.injEq] at hd
      obtain ⟨rfl, rfl⟩ := hd
      have hs := sized_slice hsz (j := 0) (t := 22) (e := 5) rfl rfl Ybaf.underlying22
      rw [Ybaf.bytes5] at hs
      simp only [lits, List.length_map, List.length_take, List.length_drop] at hs
      refine ⟨by omega, fun hpos => ?_⟩
      obtain ⟨b, off, rfl, hcc⟩ := ints_at hcell (by omega)
      refine ⟨b, off, rfl, World.block_lt_of_cell? W _ (hcc 0 (by omega)), fun i hi => ?_⟩
      have hb := range_u8 hwz i
      exact ⟨zs.getD i 0, by simpa using hb.1, by simpa using hb.2, hcc i (by omega)⟩
  obtain ⟨a1, len1, cap1, rfl⟩ := okWide_slice Ybaf.underlying23 (hval 1 23 v1 rfl rfl)
  have k1 := h1
  have lt1 : ∀ x ∈ p1, x.block < W.heap.size := by obtain ⟨m, hm⟩ := k1; exact DataW.trod_lt m _ _ _ hm
  have w1 : len1 ≤ 140737488355328 ∧ (0 < len1 → ∃ b off, a1 = some ⟨b, off, none⟩ ∧ b < W.heap.size ∧ ∀ i, i < len1 → ∃ s : ByteArray, s.size ≤ 140737488355328 ∧ W.cell? ⟨b, off + i, none⟩ = some (.string s)) := by
    obtain ⟨fuel, hf⟩ := h1
    rcases open_strings Ybaf.underlying23 Ybaf.underlying9 Ybaf.cells9 hf with ⟨hcs, _⟩ | ⟨x, l, c, ss, hcs, _, hl, hm, hz, hd, hcell, hwz⟩
    · simp [Value.cells] at hcs
      obtain ⟨rfl, rfl, rfl⟩ := hcs
      exact ⟨by omega, fun h => absurd h (by omega)⟩
    · simp [Value.cells] at hcs
      obtain ⟨rfl, rfl, rfl⟩ := hcs
      have hz' : ss.length = cap1 := by simpa using hz
      simp only [Prod.mk.injEq] at hd
      obtain ⟨rfl, rfl⟩ := hd
      have hs := sized_slice hsz (j := 1) (t := 23) (e := 9) rfl rfl Ybaf.underlying23
      rw [Ybaf.bytes9] at hs
      simp only [strs, List.length_map, List.length_take, List.length_drop] at hs
      refine ⟨by omega, fun hpos => ?_⟩
      have h00 := hcell 0 (by omega)
      obtain ⟨b, off, spot⟩ := x
      have hspot : spot = none := by simpa [Addr.add] using World.cell?_spot h00
      subst hspot
      refine ⟨b, off, rfl, World.block_lt_of_cell? W _ h00, fun i hi => ?_⟩
      have hii := hcell i (by omega)
      rw [show (⟨b, off, none⟩ : Addr).add i = ⟨b, off + i, none⟩ from by unfold Addr.add; split <;> simp_all] at hii
      refine ⟨_, ?_, hii⟩
      have hmem : ss.getD i ByteArray.empty ∈ ss.take len1 := by
        rw [List.getD_eq_getElem?_getD, List.getElem?_eq_getElem (by omega : i < ss.length)]
        exact List.mem_take_iff_getElem.2 ⟨i, by omega, rfl⟩
      have := sized_strs hsz (j := 1) (t := 23) (e := 9) rfl rfl Ybaf.underlying23 _ hmem
      have e : (ss.getD i ByteArray.empty).data.toList.length = (ss.getD i ByteArray.empty).size := by simp
      omega
  obtain ⟨a2, rfl, rfl, rfl, w2⟩ := open_int Ybaf.underlying3 (hval 2 3 v2 rfl rfl) h2
  obtain ⟨a3, rfl, rfl, rfl, w3⟩ := open_int Ybaf.underlying24 (hval 3 24 v3 rfl rfl) h3
  clear hA0 hval0
  have b3 := bounds_u64 w3
  have hwalk : Calls Ybaf.prog 3 #[.slice a0 len0 cap0, .slice a1 len1 cap1, .int .i64 a2, .int .u64 a3] W fun e w' => e = .returned (.bool true) ∧ Below W.heap.size W w' := by
    by_cases hbig : 1024 < len0
    · exact law_long a0 a1 len0 cap0 len1 cap1 a2 a3 W hbig w0.1
    · exact law_any F.told a0 a1 len0 cap0 len1 cap1 a2 a3 W hF (by omega) w1.1 b3.1 w0.2 w1.2
  refine hwalk.mono fun e W' ⟨he, bel⟩ => ?_
  subst he
  exact ⟨_, rfl, _, _, _, [], _, [], hW', trodAll_mk1 (shut_bool Ybaf.underlying4 _), (trodAll_cons_mk (Below.trod Ybaf.laidOut (by kernel_rfl) (of_decide_eq_true (by kernel_rfl)) k0 bel lt0) (trodAll_cons_mk (Below.trod Ybaf.laidOut (by kernel_rfl) (of_decide_eq_true (by kernel_rfl)) k1 bel lt1) (trodAll_cons_mk (shut_int Ybaf.underlying3 w2) (trodAll_cons_mk (shut_int Ybaf.underlying24 w3) trodAll_mk0)))), rfl, bel.frame _, fun h => by cases h⟩

theorem Ybaf.stops : Ybaf.pinned.checked.prog.stops = Rows.lawS3238BNumberRow.stops := by kernel_rfl
theorem Ybaf.stopKnobs : Ybaf.pinned.checked.prog.stopKnobs = [] := by kernel_rfl
theorem Ybaf.quiet (os : Os) : Stop.quiet Ybaf.pinned.checked.prog os := by
  intro k hk
  rw [Ybaf.stopKnobs] at hk
  cases hk

/-- THE STATEMENT. -/
theorem lawS3238BNumber_proved : Rows.LawS3238BNumberToldSaid :=
  Claim7.holds_of_told_any 3 Ybaf.f3 _ _ [] _ _ _ (by kernel_rfl) rfl rfl rfl Ybaf.laidOut (by kernel_rfl) rfl ⟨rfl, rfl, rfl, rfl, rfl, rfl, rfl⟩ rfl rfl (by kernel_rfl) (by kernel_rfl) Ybaf.func3 (by kernel_rfl)
    (of_decide_eq_true (by kernel_rfl)) (by unfold Func.isWrapper; first | (rw [if_pos (by decide +kernel)]; kernel_rfl) | (rw [if_neg (by decide +kernel)]; exact ⟨rfl, rfl⟩)) Ybaf.stops.symm rfl Ybaf.stopKnobs.symm (by kernel_rfl)
    (by kernel_rfl) (by kernel_rfl) (by kernel_rfl) (by kernel_rfl) (by kernel_rfl) (by kernel_rfl) (by kernel_rfl) (by kernel_rfl) (by kernel_rfl) rfl (by kernel_rfl) rfl rfl
    rfl rfl
    rfl (by kernel_rfl) (by kernel_rfl) (by kernel_rfl) (by decide) (by kernel_rfl)
    (OpenClaim.moreEntering_of (by kernel_rfl) (by kernel_rfl) (by kernel_rfl) (by kernel_rfl) (by kernel_rfl) (by kernel_rfl) (by kernel_rfl) (by kernel_rfl) (by kernel_rfl) (by kernel_rfl))
    ⟨_, WideRow.started_initial, Ybaf.quiet _⟩
    (fun os started _ H enc _ => law_lifted os started H enc)

end Go.Proofs.YbulkboaoFmt
