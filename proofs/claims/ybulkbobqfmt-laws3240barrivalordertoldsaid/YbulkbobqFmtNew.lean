/-
  The contracts of New and NewFIFO.
-/
import Derived.Test.YbulkbobqFmtResize
namespace Go.Proofs.YbulkbobqFmt
open Go.RowKit

/-- A fresh Orderer. -/
def Fresh (base O : Nat) (s : OS) (w : World) (fifo : Bool) : Prop :=
  Stat base O s ∧ Wk base O 0 s w 0 0 0 (.slice none 0 0) fifo false ∧ Drow w s.D (List.replicate s.n 0) ∧ Drow w s.E (List.replicate s.n 0) ∧ Qrow base w s.H (List.replicate s.n (0, []))

theorem zeros_u {cur : Array Value} {n : Nat} (h : Zeros cur #[.int .u64 0] n) : n ≤ cur.size ∧ ∀ v ∈ cur.toList, v = .int .u64 0 := by
  refine ⟨by simpa using h.1, fun v hv => ?_⟩
  obtain ⟨i, hi, rfl⟩ := List.getElem_of_mem hv
  have hi' : i < cur.size := by simpa using hi
  have := h.2 i hi'
  rw [Array.getElem?_eq_getElem hi', show i % (#[Value.int .u64 0] : Array Value).size = 0 from Nat.mod_one i] at this
  simpa using this

theorem drow_zeros {w : World} {b n : Nat} {cur : Array Value} (hb : w.heap[b]? = some (.cells cur 26 (0, 0))) (h : Zeros cur #[.int .u64 0] n) : Drow w b (List.replicate n 0) := by
  obtain ⟨h1, h2⟩ := zeros_u h
  refine ⟨fun z hz => ?_, cur, hb, fun i hi => ?_⟩
  · rw [(List.mem_replicate.1 hz).2]; omega
  · have hi' : i < cur.size := by simp at hi; omega
    rw [Array.getElem?_eq_getElem hi', h2 cur[i] (by simp)]
    simp
theorem urow_zeros {w : World} {b n : Nat} {cur : Array Value} (hb : w.heap[b]? = some (.cells cur 26 (0, 0))) (h : Zeros cur #[.int .u64 0] n) : Urow w b n := by
  obtain ⟨h1, h2⟩ := zeros_u h
  exact ⟨cur, hb, h1, fun v hv => by rw [h2 v hv]; exact isU_int (by omega) (by omega)⟩
theorem lrow_zeros {base N : Nat} {w : World} {b n : Nat} {cur : Array Value} (hb : w.heap[b]? = some (.cells cur 52 (0, 0))) (h : Zeros cur #[.slice none 0 0] n) : Lrow base N w b n := by
  refine ⟨cur, hb, by simpa using h.1, fun i hi => ⟨.slice none 0 0, ?_, ?_⟩⟩
  · have := h.1
    simp only [List.size_toArray, List.length_cons, List.length_nil] at this
    rw [h.2 i (by omega)]
    simp [Nat.mod_one]
  · exact LogSl.ofOwns (World.ownsRow_nil _ _ _ _) (Nat.zero_le _)
theorem qrow_zeros {base : Nat} {w : World} {b n : Nat} {cur : Array Value} (hbb : base ≤ b) (hb : w.heap[b]? = some (.cells cur 61 (0, 0))) (h : Zeros cur #[.slice none 0 0, .int .i64 0] n) : Qrow base w b (List.replicate n (0, [])) := by
  have h1 := h.1
  simp only [List.size_toArray, List.length_cons, List.length_nil] at h1
  refine ⟨cur, fun _ => .slice none 0 0, hb, hbb, fun j hj => ?_, fun i j hi hj hne g hg => by simp [Value.ownBlock] at hg⟩
  simp only [List.length_replicate] at hj
  simp only [List.getElem_replicate]
  refine ⟨?_, ?_, .inl ⟨rfl, rfl, rfl⟩⟩
  · rw [h.2 _ (by omega)]
    simp
  · rw [h.2 _ (by omega)]
    simp

theorem Rz.fresh {base O n me : Nat} {w0 w : World} {xs : List Value} (h : Rz base O n me w0 w [25, 16, 11, 8, 5, 3] [1, 23, 22, 6, 21, 20, 19, 18, 17, 10, 9, 7] xs) (hn : xs[1]? = some (.int .i64 n)) (h0 : 0 < n) (h8 : n ≤ 8) (hme : me < n) :
    ∃ s : OS, s.self = me ∧ s.n = n ∧ Fresh base O s w false := by
  obtain ⟨bE, cE, uE, e25, oE, gE, zE⟩ := h.row 25 (by simp)
  obtain ⟨bH, cH, uH, e16, oH, gH, zH⟩ := h.row 16 (by simp)
  obtain ⟨bP, cP, uP, e11, oP, gP, zP⟩ := h.row 11 (by simp)
  obtain ⟨bD, cD, uD, e8, oD, gD, zD⟩ := h.row 8 (by simp)
  obtain ⟨bK, cK, uK, e5, oK, gK, zK⟩ := h.row 5 (by simp)
  obtain ⟨bL, cL, uL, e3, oL, gL, zL⟩ := h.row 3 (by simp)
  have ap : ∀ {f g b b' c c' : Nat}, f ∈ [25, 16, 11, 8, 5, 3] → g ∈ [25, 16, 11, 8, 5, 3] → f ≠ g → xs[f]? = some (.slice (some ⟨b, 0, none⟩) n c) → xs[g]? = some (.slice (some ⟨b', 0, none⟩) n c') → b ≠ b' := by
    rintro f g b b' c c' hf hg hne h1 h2 rfl
    exact h.apart f g hf hg hne b c c' h1 h2
  have bO := h.bO
  simp only [et, zc] at gE gH gP gD gK gL zE zH zP zD zK zL
  simp only [show ¬ (25 = 3) from by omega, show ¬ (25 = 16) from by omega, show ¬ (16 = 3) from by omega, show ¬ (11 = 3) from by omega, show ¬ (11 = 16) from by omega, show ¬ (8 = 3) from by omega, show ¬ (8 = 16) from by omega, show ¬ (5 = 3) from by omega, show ¬ (5 = 16) from by omega, if_true, if_false] at gE gH gP gD gK gL zE zH zP zD zK zL
  refine ⟨{ self := me, n := n, L := bL, cL := cL, K := bK, cK := cK, D := bD, cD := cD, P := bP, cP := cP, H := bH, cH := cH, E := bE, cE := cE, v6 := xs.getD 6 undef, v7 := xs.getD 7 undef, v9 := xs.getD 9 undef, v10 := xs.getD 10 undef, v17 := xs.getD 17 undef, v18 := xs.getD 18 undef, v19 := xs.getD 19 undef, v20 := xs.getD 20 undef, v21 := xs.getD 21 undef, v22 := xs.getD 22 undef, v23 := xs.getD 23 undef }, rfl, rfl, ?_, ?_, drow_zeros gD zD, drow_zeros gE zE, qrow_zeros (Nat.le_of_lt (Nat.lt_of_le_of_lt bO oH)) gH zH⟩
  · constructor <;> (try (simp only)) <;> (try omega)
    · exact ap (f := 3) (g := 5) (by simp) (by simp) (by simp) e3 e5
    · exact ap (f := 3) (g := 8) (by simp) (by simp) (by simp) e3 e8
    · exact ap (f := 3) (g := 11) (by simp) (by simp) (by simp) e3 e11
    · exact ap (f := 3) (g := 16) (by simp) (by simp) (by simp) e3 e16
    · exact ap (f := 3) (g := 25) (by simp) (by simp) (by simp) e3 e25
    · exact ap (f := 5) (g := 8) (by simp) (by simp) (by simp) e5 e8
    · exact ap (f := 5) (g := 11) (by simp) (by simp) (by simp) e5 e11
    · exact ap (f := 5) (g := 16) (by simp) (by simp) (by simp) e5 e16
    · exact ap (f := 5) (g := 25) (by simp) (by simp) (by simp) e5 e25
    · exact ap (f := 8) (g := 11) (by simp) (by simp) (by simp) e8 e11
    · exact ap (f := 8) (g := 16) (by simp) (by simp) (by simp) e8 e16
    · exact ap (f := 8) (g := 25) (by simp) (by simp) (by simp) e8 e25
    · exact ap (f := 11) (g := 16) (by simp) (by simp) (by simp) e11 e16
    · exact ap (f := 11) (g := 25) (by simp) (by simp) (by simp) e11 e25
    · exact ap (f := 16) (g := 25) (by simp) (by simp) (by simp) e16 e25
  · refine ⟨?_, Nat.two_pow_pos _, LogSl.ofOwns (World.ownsRow_nil _ _ _ _) (Nat.zero_le _), h.log, lrow_zeros gL zL, urow_zeros gK zK, urow_zeros gP zP⟩
    unfold Ob
    rw [h.ob]
    congr 3
    apply List.ext_getElem?
    intro i
    have hgd : ∀ j, j < 27 → xs[j]? = some (xs.getD j undef) := fun j hj => by
      have hl := h.len
      rw [List.getD_eq_getElem?_getD, List.getElem?_eq_getElem (by omega)]
      rfl
    by_cases hi : i < 27
    · have hold := h.old i hi
      have hc : i = 0 ∨ i = 1 ∨ i = 2 ∨ i = 3 ∨ i = 4 ∨ i = 5 ∨ i = 6 ∨ i = 7 ∨ i = 8 ∨ i = 9 ∨ i = 10 ∨ i = 11 ∨ i = 12 ∨ i = 13 ∨ i = 14 ∨ i = 15 ∨ i = 16 ∨ i = 17 ∨ i = 18 ∨ i = 19 ∨ i = 20 ∨ i = 21 ∨ i = 22 ∨ i = 23 ∨ i = 24 ∨ i = 25 ∨ i = 26 := by omega
      rcases hc with rfl | rfl | rfl | rfl | rfl | rfl | rfl | rfl | rfl | rfl | rfl | rfl | rfl | rfl | rfl | rfl | rfl | rfl | rfl | rfl | rfl | rfl | rfl | rfl | rfl | rfl | rfl
      all_goals first | exact (hold (by simp) (by simp)) | exact hn | exact e3 | exact e5 | exact e8 | exact e11 | exact e16 | exact e25 | exact hgd _ (by omega)
    · rw [List.getElem?_eq_none (by have := h.len; omega), List.getElem?_eq_none (by simp [ordL]; omega)]

theorem Fr.fresh {base : Nat} {S T : List Nat} {w w' w'' : World} (h : Fr base [] [] w w') (k : Fr base S T w' w'') (hS : ∀ g, g ∈ S → w.heap.size ≤ g) (hT : T = []) : Fr base [] [] w w'' := by
  subst hT
  refine ⟨k.os.trans h.os, k.tape.trans h.tape, k.output.trans h.output, Nat.le_trans h.size k.size, fun b hb hc => ?_, fun b cur t fr hg => ?_⟩
  · refine (k.block b (Nat.lt_of_lt_of_le hb h.size) (.inr ⟨fun hk => ?_, fun _ _ _ _ => by simp⟩)).trans (h.block b hb hc)
    have := hS b hk
    omega
  · obtain ⟨c1, g1, s1⟩ := h.shape b cur t fr hg
    obtain ⟨c2, g2, s2⟩ := k.shape b c1 t fr g1
    exact ⟨c2, g2, s2.trans s1⟩

/-- What New says. -/
def NewPost (base n me : Nat) (fifo : Bool) (w : World) (e : Ending) (w' : World) : Prop :=
  e = .returned (.pointer (some ⟨w.heap.size, 0, none⟩)) ∧ (∃ s : OS, s.self = me ∧ s.n = n ∧ Fresh base w.heap.size s w' fifo) ∧ Fr base [] [] w w'

set_option maxHeartbeats 1000000 in
theorem new_any (base n me : Nat) (h0 : 0 < n) (h8 : n ≤ 8) (hme : me < n) (w : World) (hb : base ≤ w.heap.size) (hl : LogOK base w) : Calls Ybaf.prog 5 #[.int .i64 me, .int .i64 n] w (NewPost base n me false w) := by
  obtain ⟨W, hW⟩ : ∃ W, W = w.alloc (.cells (ord0 me).toArray 57) := ⟨_, rfl⟩
  have hR : Rz base w.heap.size n me W W [] [] (ord0 me) := by
    refine ⟨rfl, by rw [hW]; exact heap_alloc_new w _, Fr.refl _ _ _ _, by rw [hW]; exact hl.alloc _ _ (fun e => by simp at e), hb, fun _ _ _ _ => rfl, fun f hf => by simp at hf, fun f g hf => by simp at hf⟩
  have HF : Hid (Fr base [] [] w W) := by rw [hW]; exact (Fr.refl _ _ _ _).alloc _
  have hcall := resize_any base w.heap.size n me h0 h8 W hR
  have HK : Hid (∀ e w', ResizePost base w.heap.size n me W e w' → NewPost base n me false w (.returned (.pointer (some ⟨w.heap.size, 0, none⟩))) w') := by
    rintro e w' ⟨rfl, xs, hz, hn⟩
    obtain ⟨s, s1, s2, s3⟩ := hz.fresh hn h0 h8 hme
    exact ⟨rfl, ⟨s, s1, s2, s3⟩, HF.out.fresh hz.fr (fun g hg => by simp at hg; omega) rfl⟩
  simp only [ord0] at hW
  clear hR
  have e1 : ¬ ((n : Int) < 1) := by omega
  have e2 : ¬ ((64 : Int) < n) := by omega
  have e3 : ¬ ((n : Int) ≤ me) := by omega
  go_enter Ybaf.func5, Ybaf.ntmps5
  go_wp2_with fail
  rw [← hW]
  refine hcall.mono ?_
  intro e w' hp
  have HP := HK.out e w' hp
  obtain ⟨rfl, _⟩ := hp
  have HP2 : Hid (NewPost base n me false w (.returned (.pointer (some ⟨w.heap.size, 0, none⟩))) w') := HP
  clear HP HK hcall hW
  go_wp2
  go_ret
  exact HP2.out

theorem Fresh.fifo {base O : Nat} {s : OS} {w : World} (h : Fresh base O s w false) : Fresh base O s (w.setCell ⟨O, 15, none⟩ (.bool true)) true ∧ Fr base [O] [] w (w.setCell ⟨O, 15, none⟩ (.bool true)) := by
  obtain ⟨st, wk, d, e, q⟩ := h
  have hf : Fr base [O] [] w (w.setCell ⟨O, 15, none⟩ (.bool true)) := (Fr.refl _ _ _ _).setCell wk.ob _ st.bO (.inl (by simp))
  refine ⟨⟨st, ⟨wk.ob.setFifo true, wk.hl, wk.scr.fr hf, wk.ok.setCell wk.ob _ (fun e => by simp at e), wk.L.fr hf (by simp; exact Ne.symm st.OL) (by simp), wk.K.fr hf (by simp; exact Ne.symm st.OK) (by simp), wk.P.fr hf (by simp; exact Ne.symm st.OP) (by simp)⟩, d.fr hf (by simp; exact Ne.symm st.OD) (by simp), e.fr hf (by simp; exact Ne.symm st.OE) (by simp), ?_⟩, hf⟩
  refine q.fr hf (by simp; exact Ne.symm st.OH) (by simp) (by simp) fun g hg cur hc => ?_
  simp only [List.mem_cons, List.not_mem_nil, or_false] at hg
  subst hg
  have := wk.ob
  unfold Ob at this
  rw [this] at hc
  simp at hc

set_option maxHeartbeats 1000000 in
theorem newFifo_any (base n me : Nat) (h0 : 0 < n) (h8 : n ≤ 8) (hme : me < n) (w : World) (hb : base ≤ w.heap.size) (hl : LogOK base w) : Calls Ybaf.prog 13 #[.int .i64 me, .int .i64 n] w (NewPost base n me true w) := by
  go_enter Ybaf.func13, Ybaf.ntmps13
  go_wp2_with fail
  refine (new_any base n me h0 h8 hme w hb hl).mono ?_
  rintro e W ⟨rfl, ⟨s, s1, s2, s3⟩, hf⟩
  have hc : W.cell? ⟨w.heap.size, 15, none⟩ = some (.bool false) := s3.2.1.ob.at 15
  have hz := s3.2.1.ob.free 15
  have HP : Hid (NewPost base n me true w (.returned (.pointer (some ⟨w.heap.size, 0, none⟩))) (W.setCell ⟨w.heap.size, 15, none⟩ (.bool true))) := ⟨rfl, ⟨s, s1, s2, s3.fifo.1⟩, hf.fresh s3.fifo.2 (fun g hg => by simp at hg; omega) rfl⟩
  clear s1 s2 s3 hf
  go_wp2
  go_ret
  exact HP.out

end Go.Proofs.YbulkbobqFmt
