/-
  The proof of 'Rows.LawS3239BSignedToldSaid': the frame after the guide's 10.14 and 10.16 (LabelTold, PortSeven); the walk: YbulkbobcFmtLaw.
-/
import Derived.Test.YbulkbobcFmtTie
import Derived.Test.YbulkbobcFmtCards
import Derived.Test.YbulkbobcFmtLaw
import Derived.ProofKit
import Derived.OpenShut
import Derived.ChangeOld
import Derived.Deep.Matrix
import Derived.Stop.JoinedAt
import Derived.Stop.JoinedTold
import Derived.Stop.LaidErr
import Derived.LaidLaws
import Derived.SevenTiedAt
namespace Go.Proofs.YbulkbobcFmt
open Go.ChangeShapes Go.WideShapes Go.ChangeAt Go.RowKit Go.Deep
open Go.Extern.Stop Go.Stop Go.Extern

theorem Ybaf.own : ownKnob Ybaf.prog.godebug = none := by kernel_rfl
theorem Ybaf.laidOut : laidOutB Ybaf.prog = true := by kernel_rfl
theorem Ybaf.cells22 : Ybaf.prog.cellsOf 22 = 1 := by kernel_rfl
theorem Ybaf.cells5 : Ybaf.prog.cellsOf 5 = 1 := by kernel_rfl
theorem Ybaf.cells25 : Ybaf.prog.cellsOf 25 = 8 := by kernel_rfl

/-! ### One start that fits: the two sentinels as their initialisers lay them -/
def lowAt (P : Program) : Nat := (World.holding P default ⟨#[], #[], []⟩).heap.size
def laidWorld (P : Program) (os : Os) : World :=
  let w0 := World.holding P os ⟨#[.cells #[.string ⟨#[69, 79, 70]⟩] 67, .cells #[.string ⟨#[117, 110, 101, 120, 112, 101, 99, 116, 101, 100, 32, 69, 79, 70]⟩] 67], #[], []⟩
  let put (h : Array Obj) (g : Nat) (cs : Array Value) : Array Obj := h.modify g fun
    | .cells _ t frozen => .cells cs t frozen
    | o => o
  { w0 with heap := put (put w0.heap 1 #[.iface 65 (.pointer (some ⟨lowAt P, 0, none⟩))]) 2 #[.iface 65 (.pointer (some ⟨lowAt P + 1, 0, none⟩))] }
theorem laid_met (os : Os) (args : Array Value) : laidMet Ybaf.prog Rows.lawS3239BSignedRow.laid ((laidWorld Ybaf.prog os).forCall (fun _ _ => 0) ⟨#[], args, []⟩).memory :=
  laidMet_of_run (ps := [.cell 1 0, .cell (lowAt Ybaf.prog) 0, .cell 2 0, .cell (lowAt Ybaf.prog + 1) 0]) 8 (by kernel_rfl) (by kernel_rfl) (by kernel_rfl)

/-! ### Opening -/
theorem open_arr8 {H : Type} {enc : TypeId × Value → H} {W : World} {base b0 : Nat} {sp : Nat → Bool} {held : Bool} {r : Reach} {v : Value} {d : DataW H} {p : List MemPlace} (hv : Value.okWide Ybaf.prog W r b0 25 v) (h : DataW.Trod enc Ybaf.prog W base sp held 25 v d p) :
    ∃ j0 j1 j2 j3 j4 j5 j6 j7 : Int, v = .agg #[.int .u8 j0, .int .u8 j1, .int .u8 j2, .int .u8 j3, .int .u8 j4, .int .u8 j5, .int .u8 j6, .int .u8 j7] ∧ ∀ x ∈ [j0, j1, j2, j3, j4, j5, j6, j7], 0 ≤ x ∧ x ≤ 255 := by
  obtain ⟨cs, rfl, hsz, _⟩ : ∃ cs, v = .agg cs ∧ cs.size = Ybaf.prog.cellsOf 25 ∧ Row.okWide Ybaf.prog W r b0 25 cs := by
    simpa [Value.okWide, Ybaf.underlying25] using hv
  rw [Ybaf.cells25] at hsz
  obtain ⟨l⟩ := cs
  obtain ⟨c0, c1, c2, c3, c4, c5, c6, c7, rfl⟩ := eight l (by simpa using hsz)
  obtain ⟨fuel, hf⟩ := h
  obtain ⟨xs, m, _, _, _, hxl, hx⟩ := DataW.trod_array Ybaf.underlying25 hf
  have each : ∀ i (hi : i < 8) (c : Value), (([c0, c1, c2, c3, c4, c5, c6, c7] : List Value).drop (i * Ybaf.prog.cellsOf 5)).take (Ybaf.prog.cellsOf 5) = [c] → ∃ z : Int, c = .int .u8 z ∧ 0 ≤ z ∧ z ≤ 255 := by
    intro i hi c hc
    have h1 := hx i hi
    have h2 : DataW.trod enc Ybaf.prog W base sp held m 5 [c] = xs[i]? := by rw [← hc]; exact h1
    rw [List.getElem?_eq_getElem (by omega)] at h2
    obtain ⟨z, e, _, wz⟩ := DataW.trod_int Ybaf.underlying5 h2
    have hb := bounds_u8 wz
    exact ⟨z, by simpa using e, hb.1, hb.2⟩
  obtain ⟨j0, rfl, a0, b0'⟩ := each 0 (by omega) c0 (by rw [Ybaf.cells5]; rfl)
  obtain ⟨j1, rfl, a1, b1'⟩ := each 1 (by omega) c1 (by rw [Ybaf.cells5]; rfl)
  obtain ⟨j2, rfl, a2, b2'⟩ := each 2 (by omega) c2 (by rw [Ybaf.cells5]; rfl)
  obtain ⟨j3, rfl, a3, b3'⟩ := each 3 (by omega) c3 (by rw [Ybaf.cells5]; rfl)
  obtain ⟨j4, rfl, a4, b4'⟩ := each 4 (by omega) c4 (by rw [Ybaf.cells5]; rfl)
  obtain ⟨j5, rfl, a5, b5'⟩ := each 5 (by omega) c5 (by rw [Ybaf.cells5]; rfl)
  obtain ⟨j6, rfl, a6, b6'⟩ := each 6 (by omega) c6 (by rw [Ybaf.cells5]; rfl)
  obtain ⟨j7, rfl, a7, b7'⟩ := each 7 (by omega) c7 (by rw [Ybaf.cells5]; rfl)
  refine ⟨j0, j1, j2, j3, j4, j5, j6, j7, rfl, ?_⟩
  intro x hx
  simp only [List.mem_cons, List.not_mem_nil, or_false] at hx
  rcases hx with rfl | rfl | rfl | rfl | rfl | rfl | rfl | rfl <;> omega

/-- A slice of numbers that came in, as a source. -/
theorem src_of {W : World} {a : Option Addr} {len cap : Nat} {zs : List Int} (hl : len ≤ cap) (hz : zs.length = cap) (hn : a = none → cap = 0) (hw : ∀ n ∈ zs, (Lit.int .u8 n).wf = true)
    (hc : ∀ a', a = some a' → ∀ c, c < cap → W.cell? (a'.add c) = some (.int .u8 (zs.getD c 0))) : Src W (.slice a len cap) (zs.take len) := by
  refine ⟨fun x hx => ?_, ?_⟩
  · have := bounds_u8 (hw x (List.mem_of_mem_take hx))
    exact this
  · cases a with
    | none =>
      have := hn rfl
      subst this
      obtain rfl : len = 0 := by omega
      exact .inl ⟨rfl, by simp⟩
    | some ad =>
      refine .inr ⟨ad, cap, by simp; omega, fun j u hu => ?_⟩
      have hj : j < len := by
        rcases Nat.lt_or_ge j len with h | h
        · exact h
        · rw [List.getElem?_eq_none (by simp; omega)] at hu; cases hu
      rw [hc ad rfl j (by omega)]
      rw [List.getElem?_map, List.getElem?_take_of_lt hj, List.getElem?_eq_getElem (by omega : j < zs.length)] at hu
      rw [List.getD_eq_getElem?_getD, List.getElem?_eq_getElem (by omega : j < zs.length)]
      simpa using hu

set_option maxRecDepth 100000 in
theorem law_lifted (os : Os) (started : os.Started) (H : Type) (enc : TypeId × Value → H) :
    ReturnsInTold none {} Ybaf.checked os 4 .any Input.okWide ((OpenSpec.ofChange Rows.lawS3239BSignedSpec).preRow enc Ybaf.prog Ybaf.f4 [] false Rows.lawS3239BSignedRow.laid) (fun F => ((OpenSpec.ofChange Rows.lawS3239BSignedSpec).at F).post enc Ybaf.prog Ybaf.f4 false true false false) (aloneAtReturn Ybaf.prog) nothingAlways := by
  refine returnsInTold_of_row (C := Ybaf.checked) (s := OpenSpec.ofChange Rows.lawS3239BSignedSpec) (by kernel_rfl) Ybaf.own started (by kernel_rfl) Ybaf.func4
    (OpenSpec.witness_stopped_at (enc := enc) (C := Ybaf.checked) false (laidWorld Ybaf.prog os) #[.slice none 0 0, .slice none 0 0, .int .u8 0, .int .u64 0, .agg #[.int .u8 0, .int .u8 0, .int .u8 0, .int .u8 0, .int .u8 0, .int .u8 0, .int .u8 0, .int .u8 0]] rfl (by kernel_rfl) (by kernel_rfl) (by kernel_rfl)
      (OpenSpec.preRow_of_B rfl 8 (by kernel_rfl) (by kernel_rfl) (laid_met os _))) ?_
  intro F W base args ds gs before _ hF hval0 hW _ _ _ hL _
  have hval : ∀ (j : Nat) t v, Ybaf.f4.params[j]? = some t → args[j]? = some v → Value.okWide Ybaf.prog W .any base t v := hval0
  have hW' := hW
  obtain ⟨p, q, hA0, hV, rfl, hfz, hnd⟩ := hW
  have hA : DataW.TrodAll enc Ybaf.prog W 0 (fun _ => true) true Ybaf.f4.params.toList args.toList ds p := hA0
  rw [Ybaf.params4] at hA hval
  obtain ⟨v0, vs0, d0, ds0, p0, q0, hargs, rfl, rfl, h0, r0⟩ := trodAll_cons hA
  obtain ⟨v1, vs1, d1, ds1, p1, q1, rfl, rfl, rfl, h1, r1⟩ := trodAll_cons r0
  obtain ⟨v2, vs2, d2, ds2, p2, q2, rfl, rfl, rfl, h2, r2⟩ := trodAll_cons r1
  obtain ⟨v3, vs3, d3, ds3, p3, q3, rfl, rfl, rfl, h3, r3⟩ := trodAll_cons r2
  obtain ⟨v4, vs4, d4, ds4, p4, q4, rfl, rfl, rfl, h4, r4⟩ := trodAll_cons r3
  obtain ⟨rfl, rfl, rfl⟩ := trodAll_nil r4
  obtain rfl : args = #[v0, v1, v2, v3, v4] := by cases args; simp_all
  obtain ⟨rfl, rfl⟩ := trodVars_none hV
  -- the sentinel, off 'laid'
  have hL' : laidMet Ybaf.prog Rows.lawS3239BSignedRow.laid W := hL
  obtain ⟨ea, s1, hv1, _⟩ := laid_sentinel (g := 1) hL' (by kernel_rfl) (by kernel_rfl) Ybaf.underlying32 (fun u h => typeName_ptr_named (nm := "errors.errorString") (tp := 65) (by kernel_rfl) (by kernel_rfl) (by decide) u h) Ybaf.underlying65 Ybaf.underlying67 rfl rfl Ybaf.underlying9 (by kernel_rfl) (by kernel_rfl)
  have hg1 : W.cell? ⟨1, 0, none⟩ = some (.iface 65 (.pointer (some ea))) := by simpa using World.var?_cell (show Ybaf.prog.globalNamed "io.EOF" = some 1 by kernel_rfl) hv1 0
  have k0 := h0
  have lt0 : ∀ x ∈ p0, x.block < W.heap.size := by obtain ⟨m, hm⟩ := k0; exact DataW.trod_lt m _ _ _ hm
  have k1 := h1
  have lt1 : ∀ x ∈ p1, x.block < W.heap.size := by obtain ⟨m, hm⟩ := k1; exact DataW.trod_lt m _ _ _ hm
  have k4 := h4
  have lt4 : ∀ x ∈ p4, x.block < W.heap.size := by obtain ⟨m, hm⟩ := k4; exact DataW.trod_lt m _ _ _ hm
  obtain ⟨a0, len0, cap0, rfl⟩ := okWide_slice Ybaf.underlying22 (hval 0 22 v0 rfl rfl)
  obtain ⟨ps, hps, hpl⟩ : ∃ ps, Src W (.slice a0 len0 cap0) ps ∧ ps.length ≤ 9223372036854775807 := by
    obtain ⟨fuel, hf⟩ := h0
    rcases open_ints Ybaf.underlying22 Ybaf.underlying5 Ybaf.cells5 hf with ⟨hcs, _⟩ | ⟨x, l, c, zs, hcs, _, hl, hm, hz, _, hcell, hwz⟩
    · simp [Value.cells] at hcs
      obtain ⟨rfl, rfl, rfl⟩ := hcs
      exact ⟨[], ⟨by simp, .inl ⟨rfl, rfl⟩⟩, by simp⟩
    · simp [Value.cells] at hcs
      obtain ⟨rfl, rfl, rfl⟩ := hcs
      have hz' : zs.length = cap0 := by simpa using hz
      unfold maxLen at hm
      exact ⟨zs.take len0, src_of hl hz' (by simp) hwz (fun a' ha c hc => by
        have e : x = a' := by simpa using ha
        subst e
        exact hcell c (by omega)), by simp; omega⟩
  obtain ⟨a1, len1, cap1, rfl⟩ := okWide_slice Ybaf.underlying23 (hval 1 23 v1 rfl rfl)
  obtain ⟨yss, hys, hyl, hlen1, hyl2⟩ : ∃ yss, Srcs W a1 yss ∧ yss.length ≤ 9223372036854775807 ∧ yss.length = len1 ∧ ∀ i, (yss.getD i []).length ≤ 9223372036854775807 := by
    obtain ⟨fuel, hf⟩ := h1
    rcases open_int_rows Ybaf.underlying23 Ybaf.underlying22 Ybaf.underlying5 Ybaf.cells22 Ybaf.cells5 hf with ⟨hcs, _⟩ | ⟨x, l, c, A, L, Cc, Z, hcs, _, hl, hm, _, hrows⟩
    · simp [Value.cells] at hcs
      obtain ⟨rfl, rfl, rfl⟩ := hcs
      exact ⟨[], fun h => absurd h (by simp), by simp, rfl, by simp⟩
    · simp [Value.cells] at hcs
      obtain ⟨rfl, rfl, rfl⟩ := hcs
      unfold maxLen at hm hrows
      have hgd : ∀ i, i < len1 → ((List.range len1).map fun r => (Z r).take (L r)).getD i [] = (Z i).take (L i) := fun i hi => by
        rw [List.getD_eq_getElem?_getD, List.getElem?_map, List.getElem?_range hi]; rfl
      refine ⟨(List.range len1).map fun r => (Z r).take (L r), ?_, by simp; omega, by simp, ?_⟩
      · intro h0
        have h0' : 0 < len1 := by simpa using h0
        have h00 := (hrows 0 (by omega)).1
        obtain ⟨b, off, spot⟩ := x
        have hspot : spot = none := by simpa [Addr.add] using World.cell?_spot h00
        subst hspot
        refine ⟨b, off, rfl, World.block_lt_of_cell? W _ h00, fun i hi => ?_⟩
        have hi' : i < len1 := by simpa using hi
        obtain ⟨g1, g2, g3, g4, g5, g6, g7⟩ := hrows i (by omega)
        rw [show (⟨b, off, none⟩ : Addr).add i = ⟨b, off + i, none⟩ from by unfold Addr.add; split <;> simp_all] at g1
        refine ⟨_, g1, ?_⟩
        rw [hgd i hi']
        exact src_of g2 g4 g6 g5 fun a' ha c hc => (g7 a' ha).2 c hc
      · intro i
        by_cases hi : i < len1
        · rw [hgd i hi]
          obtain ⟨g1, g2, g3, g4, _⟩ := hrows i (by omega)
          simp; omega
        · rw [List.getD_eq_getElem?_getD, List.getElem?_eq_none (by simp; omega)]; simp
  subst hlen1
  obtain ⟨a2, rfl, rfl, rfl, w2⟩ := open_int Ybaf.underlying5 (hval 2 5 v2 rfl rfl) h2
  obtain ⟨a3, rfl, rfl, rfl, w3⟩ := open_int Ybaf.underlying24 (hval 3 24 v3 rfl rfl) h3
  obtain ⟨j0, j1, j2, j3, j4, j5, j6, j7, rfl, hj⟩ := open_arr8 (hval 4 25 v4 rfl rfl) h4
  clear hA0 hval0
  have b2 := bounds_u8 w2
  have b3 := bounds_u64 w3
  refine (law_any F.told ea _ ps a1 cap1 yss a2 a3 j0 j1 j2 j3 j4 j5 j6 j7 W hF hps hys hpl hyl hyl2 b2.1 b2.2 b3.1 hj hg1).mono fun e W' ⟨he, bel⟩ => ?_
  subst he
  exact ⟨_, rfl, _, _, _, [], _, [], hW', trodAll_mk1 (shut_bool Ybaf.underlying4 _), (trodAll_cons_mk (Below.trod Ybaf.laidOut (by kernel_rfl) (of_decide_eq_true (by kernel_rfl)) k0 bel lt0) (trodAll_cons_mk (Below.trod Ybaf.laidOut (by kernel_rfl) (of_decide_eq_true (by kernel_rfl)) k1 bel lt1) (trodAll_cons_mk (shut_int Ybaf.underlying5 w2) (trodAll_cons_mk (shut_int Ybaf.underlying24 w3) (trodAll_cons_mk (Below.trod Ybaf.laidOut (by kernel_rfl) (of_decide_eq_true (by kernel_rfl)) k4 bel lt4) trodAll_mk0))))), rfl, bel.frame _, fun h => by cases h⟩

theorem Ybaf.stops : Ybaf.pinned.checked.prog.stops = Rows.lawS3239BSignedRow.stops := by kernel_rfl
theorem Ybaf.stopKnobs : Ybaf.pinned.checked.prog.stopKnobs = [] := by kernel_rfl
theorem Ybaf.quiet (os : Os) : Stop.quiet Ybaf.pinned.checked.prog os := by
  intro k hk
  rw [Ybaf.stopKnobs] at hk
  cases hk

/-- THE STATEMENT. -/
theorem lawS3239BSigned_proved : Rows.LawS3239BSignedToldSaid :=
  Claim7.holds_of_told_tied_any_at .later 4 Ybaf.f4 _ _ [] _ _ _ _ _ (by kernel_rfl) rfl rfl rfl Ybaf.laidOut (by kernel_rfl) rfl ⟨rfl, rfl, rfl, rfl, rfl, rfl, rfl⟩ rfl rfl (by kernel_rfl) (by kernel_rfl) Ybaf.func4 (by kernel_rfl)
    (of_decide_eq_true (by kernel_rfl)) (by unfold Func.isWrapper; first | (rw [if_pos (by decide +kernel)]; kernel_rfl) | (rw [if_neg (by decide +kernel)]; exact ⟨rfl, rfl⟩)) Ybaf.stops.symm rfl Ybaf.stopKnobs.symm (by kernel_rfl)
    (by kernel_rfl) (by kernel_rfl) (by kernel_rfl) (by kernel_rfl) (by kernel_rfl) (by kernel_rfl) (by kernel_rfl) (by kernel_rfl) (by kernel_rfl) rfl (by kernel_rfl) rfl rfl
    rfl rfl
    rfl (by kernel_rfl) (by kernel_rfl) (by kernel_rfl) (by decide) (by kernel_rfl) lawS3239BSigned_row_tie
    (OpenClaim.moreEntering_of (by kernel_rfl) (by kernel_rfl) (by kernel_rfl) (by kernel_rfl) (by kernel_rfl) (by kernel_rfl) (by kernel_rfl) (by kernel_rfl) (by kernel_rfl) (by kernel_rfl))
    ⟨_, WideRow.started_initial, Ybaf.quiet _⟩
    (fun os started _ H enc _ => law_lifted os started H enc)

end Go.Proofs.YbulkbobcFmt
