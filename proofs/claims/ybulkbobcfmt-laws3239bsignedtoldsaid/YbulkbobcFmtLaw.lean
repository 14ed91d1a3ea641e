/-
  The walk of LawS3239BSigned.
-/
import Derived.Test.YbulkbobcFmtBuild
namespace Go.Proofs.YbulkbobcFmt
open Go.Extern.Stop Go.Stop Go.Extern Go.RowKit

theorem ret_bool {a b : Bool} (h : a = b) : Ending.returned (.bool a) = .returned (.bool b) := by rw [h]

theorem and128 (z : Int) (h0 : 0 ≤ z) (h1 : z ≤ 255) : (bits .and .u8 z 128 != 0) = decide (128 ≤ z) := by
  have hall : ∀ m : Fin 256, (bits .and .u8 (m.val : Int) 128 != 0) = decide (128 ≤ (m.val : Int)) := by decide +kernel
  obtain ⟨n, rfl⟩ := Int.eq_ofNat_of_zero_le h0
  exact hall ⟨n, by omega⟩

/-- The top byte tells the sign. -/
theorem top_byte (T : List Int) (wd : Nat) (h1 : 1 ≤ wd) (hl : wd ≤ T.length) (hby : ∀ x ∈ T, 0 ≤ x ∧ x ≤ 255) : (128 ≤ T.getD (wd - 1) 0) ↔ 256 ^ wd ≤ 2 * leI (T.take wd) := by
  obtain ⟨k, rfl⟩ : ∃ k, wd = k + 1 := ⟨wd - 1, by omega⟩
  rw [leI_snoc T k (by omega), Nat.add_sub_cancel]
  have hb := leI_bd (T.take k) fun x hx => hby x (List.mem_of_mem_take hx)
  rw [show (T.take k).length = k from by simp; omega] at hb
  have hz : 0 ≤ T.getD k 0 ∧ T.getD k 0 ≤ 255 := by
    rw [List.getD_eq_getElem?_getD, List.getElem?_eq_getElem (by omega : k < T.length)]
    exact hby _ (List.getElem_mem _)
  generalize T.getD k 0 = z at *
  generalize leI (T.take k) = a at *
  rw [Int.pow_succ]
  have hp : (0 : Int) < 256 ^ k := Int.pow_pos (by decide)
  generalize (256 : Int) ^ k = p at *
  obtain ⟨z0, z1⟩ := hz
  constructor
  · intro h
    have : p * 128 ≤ p * z := Int.mul_le_mul_of_nonneg_left h (by omega)
    omega
  · intro h
    by_cases hh : 128 ≤ z
    · exact hh
    · have : p * z ≤ p * 127 := Int.mul_le_mul_of_nonneg_left (by omega) (by omega)
      omega

theorem sx_pos (wd : Nat) (h1 : 1 ≤ wd) (h8 : wd < 8) (a : Int) (ha : 0 ≤ a) (hb : a < 256 ^ wd) (h : ¬ 256 ^ wd ≤ 2 * a) : sx wd a = wrap64 a := by
  unfold sx wrap64
  rw [if_pos (by omega)]
  match wd, h1, h8 with
  | 1, _, _ => omega
  | 2, _, _ => omega
  | 3, _, _ => omega
  | 4, _, _ => omega
  | 5, _, _ => omega
  | 6, _, _ => omega
  | 7, _, _ => omega

theorem sx_neg (wd : Nat) (h1 : 1 ≤ wd) (h8 : wd < 8) (a : Int) (ha : 0 ≤ a) (hb : a < 256 ^ wd) (h : 256 ^ wd ≤ 2 * a) :
    sx wd a = wrap64 (bits .or .u64 a (IntKind.u64.wrap (18446744073709551615 * 2 ^ (8 * wd)))) := by
  unfold sx wrap64
  rw [if_neg (by omega)]
  match wd, h1, h8 with
  | 1, _, _ =>
    simp only [show 8 * 1 = 8 from rfl] at *
    rw [show IntKind.u64.wrap (18446744073709551615 * 2 ^ 8) = 18446744073709551360 from by rw [IntKind.wrap_u64]; decide, bits_join_low .u64 64 (by decide) wraps_u64 8 _ _ ha (by omega) (by omega) (by omega) (by omega) (by omega)]
    omega
  | 2, _, _ =>
    simp only [show 8 * 2 = 16 from rfl] at *
    rw [show IntKind.u64.wrap (18446744073709551615 * 2 ^ 16) = 18446744073709486080 from by rw [IntKind.wrap_u64]; decide, bits_join_low .u64 64 (by decide) wraps_u64 16 _ _ ha (by omega) (by omega) (by omega) (by omega) (by omega)]
    omega
  | 3, _, _ =>
    simp only [show 8 * 3 = 24 from rfl] at *
    rw [show IntKind.u64.wrap (18446744073709551615 * 2 ^ 24) = 18446744073692774400 from by rw [IntKind.wrap_u64]; decide, bits_join_low .u64 64 (by decide) wraps_u64 24 _ _ ha (by omega) (by omega) (by omega) (by omega) (by omega)]
    omega
  | 4, _, _ =>
    simp only [show 8 * 4 = 32 from rfl] at *
    rw [show IntKind.u64.wrap (18446744073709551615 * 2 ^ 32) = 18446744069414584320 from by rw [IntKind.wrap_u64]; decide, bits_join_low .u64 64 (by decide) wraps_u64 32 _ _ ha (by omega) (by omega) (by omega) (by omega) (by omega)]
    omega
  | 5, _, _ =>
    simp only [show 8 * 5 = 40 from rfl] at *
    rw [show IntKind.u64.wrap (18446744073709551615 * 2 ^ 40) = 18446742974197923840 from by rw [IntKind.wrap_u64]; decide, bits_join_low .u64 64 (by decide) wraps_u64 40 _ _ ha (by omega) (by omega) (by omega) (by omega) (by omega)]
    omega
  | 6, _, _ =>
    simp only [show 8 * 6 = 48 from rfl] at *
    rw [show IntKind.u64.wrap (18446744073709551615 * 2 ^ 48) = 18446462598732840960 from by rw [IntKind.wrap_u64]; decide, bits_join_low .u64 64 (by decide) wraps_u64 48 _ _ ha (by omega) (by omega) (by omega) (by omega) (by omega)]
    omega
  | 7, _, _ =>
    simp only [show 8 * 7 = 56 from rfl] at *
    rw [show IntKind.u64.wrap (18446744073709551615 * 2 ^ 56) = 18374686479671623680 from by rw [IntKind.wrap_u64]; decide, bits_join_low .u64 64 (by decide) wraps_u64 56 _ _ ha (by omega) (by omega) (by omega) (by omega) (by omega)]
    omega

theorem sx_eight (a : Int) (ha : 0 ≤ a) (hb : a < 256 ^ 8) : sx 8 a = wrap64 a := by
  have e : (256 : Int) ^ 8 = 18446744073709551616 := by decide
  unfold sx wrap64
  rw [e] at *
  split <;> omega

set_option maxRecDepth 100000 in
set_option maxHeartbeats 2000000 in
theorem law_any (F : Interp) (ea : Addr) (pv : Value) (ps : List Int) (a1 : Option Addr) (cap1 : Nat) (yss : List (List Int)) (sl sel : Int) (j0 j1 j2 j3 j4 j5 j6 j7 : Int) (w : World) (hF : F.answers w.tape)
    (hp : Src w pv ps) (hs : Srcs w a1 yss) (hpl : ps.length ≤ 9223372036854775807) (hyl : yss.length ≤ 9223372036854775807) (hyl2 : ∀ i, (yss.getD i []).length ≤ 9223372036854775807) (hsl0 : 0 ≤ sl) (hsl1 : sl ≤ 255) (hsel : 0 ≤ sel)
    (hj : ∀ x ∈ [j0, j1, j2, j3, j4, j5, j6, j7], 0 ≤ x ∧ x ≤ 255) (he : w.cell? ⟨1, 0, none⟩ = some (.iface 65 (.pointer (some ea)))) :
    Calls Ybaf.prog 4 #[pv, .slice a1 yss.length cap1, .int .u8 sl, .int .u64 sel, .agg #[.int .u8 j0, .int .u8 j1, .int .u8 j2, .int .u8 j3, .int .u8 j4, .int .u8 j5, .int .u8 j6, .int .u8 j7]] w fun e w' => e = .returned (.bool true) ∧ Below w.heap.size w w' := by
  obtain ⟨pa, pc, rfl⟩ := hp.len
  obtain ⟨wd, hwd, hw1, hw8⟩ : ∃ wd : Nat, 1 + sl % 8 = (wd : Int) ∧ 1 ≤ wd ∧ wd ≤ 8 := ⟨(1 + sl % 8).toNat, by omega, by omega, by omega⟩
  obtain ⟨W, hW⟩ : ∃ W, W = w.alloc (.cells #[.int .u8 j0, .int .u8 j1, .int .u8 j2, .int .u8 j3, .int .u8 j4, .int .u8 j5, .int .u8 j6, .int .u8 j7] 25) := ⟨_, rfl⟩
  have hbW : Below w.heap.size w W := by rw [hW]; exact (Below.refl _ _).alloc (Nat.le_refl _) _
  have hpW := hp.below hbW
  have hsW : Srcs W a1 yss := by
    intro h0
    obtain ⟨b, off, h1, h2, h3⟩ := hs h0
    refine ⟨b, off, h1, by have := hbW.size; omega, fun i hi => ?_⟩
    obtain ⟨v, h4, h5⟩ := h3 i hi
    exact ⟨v, (hbW.cell (p := ⟨b, off + i, none⟩) h2).trans h4, h5.below hbW⟩
  have heW := (hbW.cell (p := ⟨1, 0, none⟩) (World.block_lt_of_cell? _ _ he)).trans he
  have hFW : F.answers W.tape := by rw [hbW.tape]; exact hF
  go_enter Ybaf.func4, Ybaf.ntmps4
  go_wp2_with fail
  rw [← hW]
  refine (sizes_any pa a1 ps.length pc cap1 yss W hsW hpl hyl hyl2).mono ?_
  rintro e w0 ⟨hw0, hcase⟩
  rw [hw0]
  clear hw0 w0
  rcases hcase with rfl | ⟨rfl, hpl', hyl', hyl2'⟩
  · clear hp hs hpW hsW hyl2 hj hW
    go_wp2
    go_ret
    exact ⟨rfl, hbW⟩
  · have hyl3 : ∀ i, (yss.getD i []).length ≤ 1024 := by
      intro i
      by_cases hi : i < yss.length
      · exact hyl2' i hi
      · rw [List.getD_eq_getElem?_getD, List.getElem?_eq_none (by omega)]; simp
    have hTby : ∀ x ∈ ps ++ yss.flatten, 0 ≤ x ∧ x ≤ 255 := by
      intro x hx
      rcases List.mem_append.1 hx with hx | hx
      · exact hp.1 x hx
      · obtain ⟨y, hy, hxy⟩ := List.mem_flatten.1 hx
        obtain ⟨i, hi, rfl⟩ := List.getElem_of_mem hy
        obtain ⟨_, _, _, _, _, _, _, hsr⟩ := hs.at i hi
        exact hsr.1 x (by rw [List.getD_eq_getElem?_getD, List.getElem?_eq_getElem hi]; exact hxy)
    have hTS : stream ps 0 yss 0 = ps ++ yss.flatten := by simp [stream]
    have HTS : Hid (_ = _) := hTS
    have HTB : Hid (∀ x ∈ ps ++ yss.flatten, 0 ≤ x ∧ x ≤ 255) := hTby
    have hjs : W.cell? ⟨w.heap.size, 0, none⟩ = some (.int .u8 j0) ∧ W.cell? ⟨w.heap.size, 1, none⟩ = some (.int .u8 j1) ∧ W.cell? ⟨w.heap.size, 2, none⟩ = some (.int .u8 j2) ∧ W.cell? ⟨w.heap.size, 3, none⟩ = some (.int .u8 j3) ∧
        W.cell? ⟨w.heap.size, 4, none⟩ = some (.int .u8 j4) ∧ W.cell? ⟨w.heap.size, 5, none⟩ = some (.int .u8 j5) ∧ W.cell? ⟨w.heap.size, 6, none⟩ = some (.int .u8 j6) ∧ W.cell? ⟨w.heap.size, 7, none⟩ = some (.int .u8 j7) := by
      rw [hW]; refine ⟨?_, ?_, ?_, ?_, ?_, ?_, ?_, ?_⟩ <;> simp
    obtain ⟨k0, k1, k2, k3, k4, k5, k6, k7⟩ := hjs
    clear hTS hTby hW hyl2 hyl2' hs hp he hF
    go_wp2_with fail
    refine (build_any ea (.slice pa ps.length pc) ps a1 cap1 yss wd sel j0 j1 j2 j3 j4 j5 j6 j7 W hpW hsW hpl' hyl' hyl3 hw8 hsel heW).mono ?_
    rintro e w1 ⟨C, R, g, cap, vs, size, tv, rfl, hSt, hNew, hs0, hs9, hCw, hRw, hb1⟩
    clear k0 k1 k2 k3 k4 k5 k6 k7 hpW hsW hyl3
    generalize hok : decide (wd ≤ ps.length ∨ ((wd : Int) ≤ size ∧ wd ≤ (ps ++ yss.flatten).length)) = okb
    have HOK : Hid (decide (wd ≤ ps.length ∨ ((wd : Int) ≤ size ∧ wd ≤ (ps ++ yss.flatten).length)) = okb) := hok
    have hF1 : F.answers w1.tape := by rw [hb1.tape]; exact hFW
    clear hok
    go_wp2_with fail
    refine (readInt_any F wd hF1 hSt hw1 hw8 hs0 hs9 rfl hj).mono ?_
    rintro e w2 ⟨ho, hcase⟩
    have HB2 : Hid (Below w.heap.size w w2) := hbW.trans ((hb1.mono hbW.size).trans (ho.below (by have := hb1.size; have := hbW.size; omega) (by have := hbW.size; intro k hk; simp at hk; omega)))
    rw [HTS.out] at hcase
    rcases hcase with ⟨hyes, bs, rest, hbl, hst, hby, rfl⟩ | ⟨⟨x, rfl⟩, hno⟩
    · obtain rfl : okb = true := by rw [← HOK.out]; exact decide_eq_true hyes
      have hTl : wd ≤ (ps ++ yss.flatten).length := by rcases hyes with h | h; (rw [List.length_append]; omega); exact h.2
      have hbs : (ps ++ yss.flatten).take wd = bs := by rw [hst, List.take_append_of_le_length (by omega), List.take_of_length_le (by omega)]
      rcases hNew with ⟨h0, _⟩ | ⟨b, c, hv, hlc, h0, hlo, hlt, hbad, hcell⟩
      · rw [h0] at hTl; simp at hTl; omega
      have hcell2 : ∀ i, i < (ps ++ yss.flatten).length → w2.cell? ⟨b, 0 + i, none⟩ = some (.int .u8 ((ps ++ yss.flatten).getD i 0)) := fun i hi =>
        (ho.cell (p := ⟨b, 0 + i, none⟩) hlt (by simp at hbad ⊢; omega)).trans (hcell i hi)
      subst hv
      have hbT := HTB.out
      generalize ps ++ yss.flatten = T at *
      clear hcell ho hSt hst hby hyes HOK
      subst hbs
      have hbd := leI_bd (T.take wd) fun x hx => hbT x (List.mem_of_mem_take hx)
      rw [hbl] at hbd
      have htop := top_byte T wd hw1 hTl hbT
      go_wp2_with fail
      refine (value_any b 0 wd T.length c T w2 hw8 hTl hTl hbT fun i hi => hcell2 i (by omega)).mono ?_
      rintro e w3 ⟨rfl, rfl⟩
      have hcz := hcell2 (wd - 1) (by omega)
      have hzb : 0 ≤ T.getD (wd - 1) 0 ∧ T.getD (wd - 1) 0 ≤ 255 := by
        rw [List.getD_eq_getElem?_getD, List.getElem?_eq_getElem (by omega : wd - 1 < T.length)]
        exact hbT _ (List.getElem_mem _)
      generalize T.getD (wd - 1) 0 = z at *
      generalize leI (T.take wd) = v at *
      have hand := and128 z hzb.1 hzb.2
      by_cases h8 : wd < 8
      · have hc1 : w3.cell? ⟨b, wd - 1, none⟩ = some (.int .u8 z) := by simpa using hcz
        by_cases hz8 : 128 ≤ z
        · have hge : (256 : Int) ^ wd ≤ 2 * v := htop.1 hz8
          rw [decide_eq_true hz8] at hand
          clear htop hcell2 hcz
          go_wp2
          go_ret
          refine ⟨ret_bool ?_, HB2.out⟩
          rw [← sx_neg wd hw1 h8 v hbd.1 hbd.2 hge]
          simp
        · have hq : (sx wd v == wrap64 v) = true := by rw [sx_pos wd hw1 h8 v hbd.1 hbd.2 fun h => hz8 (htop.2 h)]; simp
          rw [decide_eq_false hz8] at hand
          clear htop hbd hcell2 hcz
          go_wp2
          go_ret
          exact ⟨rfl, HB2.out⟩
      · obtain rfl : wd = 8 := by omega
        have hq : (sx 8 v == wrap64 v) = true := by rw [sx_eight v hbd.1 hbd.2]; simp
        clear htop hbd hcell2 hcz
        go_wp2
        go_ret
        exact ⟨rfl, HB2.out⟩
    · obtain rfl : okb = false := by rw [← HOK.out]; exact decide_eq_false hno
      clear hSt hNew ho hno
      go_wp2
      go_ret
      exact ⟨rfl, HB2.out⟩

end Go.Proofs.YbulkbobcFmt
