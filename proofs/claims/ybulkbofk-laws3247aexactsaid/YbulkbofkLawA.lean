/-
  LawS3247AExact's walk.
-/
import Derived.Test.YbulkbofkNew
import Derived.Laws.MakeOwn
import Derived.OwnWalk
import Derived.Deep.RegionHeld3
namespace Go.Proofs.Ybulkbofk
open Go.RowKit

/-- A slice of ints that came in. -/
def SrcI (w : World) (a : Option Addr) (q : List Int) : Prop :=
  (∀ z ∈ q, -9223372036854775808 ≤ z ∧ z ≤ 9223372036854775807) ∧ (q ≠ [] → ∃ g off, a = some ⟨g, off, none⟩ ∧ g < w.heap.size ∧ ∀ i, i < q.length → w.cell? ⟨g, off + i, none⟩ = some (.int .i64 (q.getD i 0)))
theorem SrcI.at {w W : World} {a : Option Addr} {q : List Int} (h : SrcI w a q) (hb : Below w.heap.size w W) (i : Nat) (hi : i < q.length) : ∃ g off, a = some ⟨g, off, none⟩ ∧ W.cell? ⟨g, off + i, none⟩ = some (.int .i64 (q.getD i 0)) := by
  obtain ⟨g, off, rfl, hg, hc⟩ := h.2 (by intro e; rw [e] at hi; simp at hi)
  exact ⟨g, off, rfl, (hb.cell hg).trans (hc i hi)⟩

theorem Yba.info32 : (Yba.prog.info? 32).map (fun i => (i.zero, i.size, i.bytes)) = some (some (.agg zP.toArray), 13, 144) := by kernel_rfl
/-- The zero live process. -/
def zL : List Value := [.pointer none, s0, .int .i64 0, .float .f64 0, .int .u64 0]
theorem Yba.info38 : (Yba.prog.info? 38).map (fun i => (i.zero, i.size, i.bytes)) = some (some (.agg zL.toArray), 5, 48) := by kernel_rfl

theorem made_get (z : Array Value) (m i : Nat) (h : i < m) (hz : 0 < z.size) : (madeCells z m)[i]? = z[i % z.size]? := by
  have hlt := Nat.mod_lt i hz
  simp only [madeCells, Array.getElem?_map]
  rw [Array.getElem?_range, if_pos h]
  simp [hlt]

/-- A row that make has made. -/
theorem make_row (w : World) (t e : TypeId) (z : List Value) (sz bytes n : Nat) (ht : Yba.prog.underlying t = some (.slice e)) (hinfo : (Yba.prog.info? e).map (fun i => (i.zero, i.size, i.bytes)) = some (some (.agg z.toArray), sz, bytes)) (hz : z.length = sz) (hs : 0 < sz) (hb : bytes ≤ 1000) (hn : n ≤ 1024) :
    ∃ W, (Instr.makeSlice t (.int .i64 (n : Int)) (.int .i64 (n : Int))).run Yba.prog w = .ok (.slice (some ⟨w.heap.size, 0, none⟩) n n) W ∧ Row W w.heap.size e sz n (fun _ => z) ∧ Below w.heap.size w W ∧ W.heap.size = w.heap.size + 1 := by
  obtain ⟨i0, hi, hz0, hz1, hz2⟩ := info_parts hinfo
  have hbn : bytes * n ≤ 1000 * 1024 := Nat.mul_le_mul hb hn
  have hr := run_make (P := Yba.prog) w t e i0 (.agg z.toArray) ht hi hz0 .i64 .i64 (n : Int) (n : Int) (by omega) (Int.le_refl _) (by
    rw [hz2]
    have : ((bytes : Int) * (n : Int)) = ((bytes * n : Nat) : Int) := by simp
    omega) (by omega)
  rw [hz1] at hr
  refine ⟨_, by simpa using hr, ⟨_, heap_alloc_new w _, by rw [size_madeCells], fun i hi' => ⟨hz, fun j hj => ?_⟩⟩, (Below.refl _ _).alloc (Nat.le_refl _) _, by simp⟩
  have hfit := mul_fits (sz := sz) hi'
  show (madeCells z.toArray (n * sz))[i * sz + j]? = z[j]?
  rw [made_get _ _ _ (by omega) (show 0 < z.toArray.size by simpa [hz] using hs)]
  rw [show z.toArray.size = sz from by simp [hz], Nat.mul_comm, Nat.mul_add_mod, Nat.mod_eq_of_lt hj]
  simp

theorem Row.there {w : World} {S sz n : Nat} {t : TypeId} {f : Nat → List Value} (h : Row w S t sz n f) (i : Nat) (hi : i < n) : w.there S (i * sz) sz := by
  intro j hj
  refine ⟨?_, h.free _⟩
  rw [h.cell i j hi hj]
  obtain ⟨cur, h1, h2, h3⟩ := h
  rw [List.getElem?_eq_getElem (by rw [(h3 i hi).1]; exact hj)]
  rfl
/-- Filled up to k. -/
def upto (k : Nat) (f : Nat → List Value) (z : List Value) : Nat → List Value := fun i => if i < k then f i else z
theorem Row.next {w : World} {S sz n k : Nat} {t : TypeId} {f : Nat → List Value} {z : List Value} (h : Row w S t sz n (upto k f z)) (hk : k < n) (hl : (f k).length = sz) : Row (w.setCells S (k * sz) (f k)) S t sz n (upto (k + 1) f z) ∧ ∀ b, b ≠ S → (w.setCells S (k * sz) (f k)).heap[b]? = w.heap[b]? := by
  obtain ⟨h1, h2⟩ := h.set k hk (f k) hl
  refine ⟨h1.congr fun i _ => ?_, h2⟩
  unfold upto
  by_cases e : i = k
  · subst e; simp
  · by_cases h : i < k
    · simp [e, h, show i < k + 1 by omega]
    · simp [e, h, show ¬ i < k + 1 by omega]
theorem below_setCells {B : Nat} {a w : World} {S o n sz : Nat} {t : TypeId} {f : Nat → List Value} {vs : List Value} (h : Below B a w) (hr : Row w S t sz n f) (hB : B ≤ S) (hfit : o + vs.length ≤ n * sz) : Below B a (w.setCells S o vs) := by
  obtain ⟨cur, h1, h2, _⟩ := hr
  rw [setCells_row S t vs o cur w h1 (by omega)]
  exact ⟨h.os, h.tape, h.output, by simpa [World.setRow] using h.size, fun k hk => (setRow_other w S k _ (by omega)).trans (h.block k hk)⟩

/-- What is built, and what was there. -/
structure K4 (B S Bs L : Nat) (q0 q1 : List Int) (w W : World) : Prop where
  low : Below B w W
  s : Row W S 32 13 q0.length (pStd q0)
  b : Row W Bs 32 13 q1.length (pLive q1)
  l : Row W L 38 5 q1.length (lpr Bs)
  bW : B ≤ W.heap.size
theorem K4.keep {B S Bs L : Nat} {q0 q1 : List Int} {w W W' : World} (h : K4 B S Bs L q0 q1 w W) (hb : Below W.heap.size W W') : K4 B S Bs L q0 q1 w W' :=
  ⟨h.low.trans (hb.mono h.bW), h.s.same (hb.block _ h.s.lt), h.b.same (hb.block _ h.b.lt), h.l.same (hb.block _ h.l.lt), Nat.le_trans h.bW hb.size⟩

theorem resP_pr (lm : Bool) (pid : Int) (r : Option Nat) : ∃ p c s t f u, resP lm pid r = pr p c s t f u := by
  cases r with
  | none => exact ⟨0, ⟨#[]⟩, ⟨#[]⟩, 0, 0, 0, rfl⟩
  | some j =>
    cases lm
    · exact ⟨_, _, _, _, _, _, rfl⟩
    · exact ⟨_, _, _, _, _, _, rfl⟩

/-- And what latestValues gave. -/
structure K5 (B S Bs L : Nat) (q0 q1 : List Int) (w : World) (R T : Nat) (pl : List Value) (tt : Int) (W : World) : Prop where
  k : K4 B S Bs L q0 q1 w W
  p : Pb W R pl
  t : Tb W T tt
theorem K5.keep {B S Bs L : Nat} {q0 q1 : List Int} {w : World} {R T : Nat} {pl : List Value} {tt : Int} {W W' : World} (h : K5 B S Bs L q0 q1 w R T pl tt W) (hb : Below W.heap.size W W') : K5 B S Bs L q0 q1 w R T pl tt W' :=
  ⟨h.k.keep hb, (hb.block _ (Array.getElem?_eq_some_iff.1 h.p).1).trans h.p, h.t.other (hb.block _ (Array.getElem?_eq_some_iff.1 h.t).1)⟩

set_option maxRecDepth 100000 in
set_option maxHeartbeats 8000000 in
theorem lawA (a0 a1 : Option Addr) (cap0 cap1 : Nat) (q0 q1 : List Int) (pid ls ll now : Int) (w : World) (s0' : SrcI w a0 q0) (s1' : SrcI w a1 q1)
    (bs : -2147483648 ≤ ls ∧ ls ≤ 2147483647) (bl : -2147483648 ≤ ll ∧ ll ≤ 2147483647) (bn : -2147483648 ≤ now ∧ now ≤ 2147483647) :
    Calls Yba.prog 3 #[.slice a0 q0.length cap0, .slice a1 q1.length cap1, .int .i64 pid, .int .i32 ls, .int .i32 ll, .int .i32 now] w fun e w' => e = .returned (.bool true) ∧ Below w.heap.size w w' := by
  by_cases hl0 : 1024 < q0.length
  · have e1 : (1024 : Int) < (q0.length : Nat) := by omega
    clear s0' s1'
    go_enter Yba.func3, Yba.ntmps3
    go_wp2
    go_ret
    exact ⟨rfl, Below.refl _ _⟩
  by_cases hl1 : 1024 < q1.length
  · have e1 : ¬ ((1024 : Int) < (q0.length : Nat)) := by omega
    have e2 : (1024 : Int) < (q1.length : Nat) := by omega
    clear s0' s1'
    go_enter Yba.func3, Yba.ntmps3
    go_wp2
    go_ret
    exact ⟨rfl, Below.refl _ _⟩
  have e1 : ¬ ((1024 : Int) < (q0.length : Nat)) := by omega
  have e2 : ¬ ((1024 : Int) < (q1.length : Nat)) := by omega
  have HS0 : Hid (SrcI w a0 q0) := s0'
  have HS1 : Hid (SrcI w a1 q1) := s1'
  have hsf := storeF
  clear s0' s1'
  obtain ⟨W1, hmk, hRow, hb1, hz1⟩ := make_row w 23 32 zP 13 144 q0.length Yba.underlying23 Yba.info32 rfl (by omega) (by omega) (by omega)
  go_enter Yba.func3, Yba.ntmps3
  go_wp2_with fail
  clear hmk
  obtain ⟨B, hBe⟩ : ∃ B, B = w.heap.size := ⟨_, rfl⟩
  have HBE : Hid (w.heap.size = B) := hBe.symm
  have hRow0 : Row W1 w.heap.size 32 13 q0.length (upto 0 (pStd q0) zP) := hRow.congr fun i _ => by simp [upto]
  obtain ⟨S, hSe⟩ : ∃ S, S = w.heap.size := ⟨_, rfl⟩
  have HSB : Hid (S = B) := hSe.trans hBe.symm
  rw [← hSe] at hRow0 ⊢
  rw [← hBe] at hb1
  clear hRow hBe hSe hz1
  go_loopw [51] (fun i wr => ∃ k : Nat, i = .int .i64 k ∧ k ≤ q0.length ∧ Below B w wr ∧ Row wr S 32 13 q0.length (upto k (pStd q0) zP)) (fun i _ => q0.length - (intOf i).toNat)
  case atStart => exact ⟨0, rfl, Nat.zero_le _, hb1, hRow0⟩
  case round =>
    obtain ⟨k, rfl, hk, hb, hR⟩ := hrel
    by_cases hkl : k < q0.length
    · obtain ⟨g, off, rfl, c0⟩ := HS0.out.at (by rw [HBE.out]; exact hb) k hkl
      have hkl2 : (k : Int) < q0.length := by omega
      have hz13 : At13 wr S (k * 13) (pr 0 ⟨#[]⟩ ⟨#[]⟩ 0 0 0) := by
        have := hR.at13 k hkl
        rw [show upto k (pStd q0) zP k = zP from by simp [upto]] at this
        exact this
      obtain ⟨r0, r1, r2, r3, r4, r5, r6, r7, r8, r9, r10, r11, r12⟩ := hz13.cells
      have rf := hR.free
      obtain ⟨hnext, _⟩ := hR.next hkl (f := pStd q0) rfl
      have HN : Hid (Row (wr.setCells S (k * 13) (pStd q0 k)) S 32 13 q0.length (upto (k + 1) (pStd q0) zP) ∧ Below B w (wr.setCells S (k * 13) (pStd q0 k))) := ⟨hnext, below_setCells hb hR (by have := HSB.out; omega) (by have := mul_fits (sz := 13) hkl; simp [pStd, pr]; omega)⟩
      unfold pStd at HN
      generalize q0.getD k 0 = z at c0 HN
      simp only [pr, s0, World.setCells] at HN
      clear hb hR hnext hz13
      go_wp2
      go_roundw
      case rel => exact ⟨k + 1, by simp, by omega, HN.out.2, HN.out.1⟩
      case measure => simp [intOf]; omega
    · obtain rfl : k = q0.length := by omega
      have hRS : Row wr S 32 13 q0.length (pStd q0) := hR.congr fun i hi => by simp [upto, hi]
      have HRS : Hid (Row wr S 32 13 q0.length (pStd q0) ∧ Below B w wr) := ⟨hRS, hb⟩
      have hSlt := hRS.lt
      clear hR hRS hb hkl hk hb1 hRow0
      obtain ⟨W2, hmk2, hRB, hb2, hz2⟩ := make_row wr 23 32 zP 13 144 q1.length Yba.underlying23 Yba.info32 rfl (by omega) (by omega) (by omega)
      obtain ⟨W3, hmk3, hRL, hb3, hz3⟩ := make_row W2 33 38 zL 5 48 q1.length Yba.underlying33 Yba.info38 rfl (by omega) (by omega) (by omega)
      have HZ2 : Hid (W2.heap.size = wr.heap.size + 1 ∧ W3.heap.size = W2.heap.size + 1) := ⟨hz2, hz3⟩
      clear hz2 hz3
      go_wp2_with fail
      clear hmk2 hmk3
      obtain ⟨hz2, hz3⟩ := HZ2.out
      obtain ⟨Bs, hBs⟩ : ∃ Bs, Bs = wr.heap.size := ⟨_, rfl⟩
      obtain ⟨L, hLe⟩ : ∃ L, L = W2.heap.size := ⟨_, rfl⟩
      have HO : Hid (S < Bs ∧ Bs < L ∧ S = B) := ⟨by omega, by omega, HSB.out⟩
      have HI2 : Hid (Below B w W3 ∧ Row W3 S 32 13 q0.length (pStd q0) ∧ Row W3 Bs 32 13 q1.length (upto 0 (pLive q1) zP) ∧ Row W3 L 38 5 q1.length (upto 0 (lpr Bs) zL)) := by
        have h13 : Below wr.heap.size wr W3 := hb2.trans (hb3.mono (by omega))
        refine ⟨HRS.out.2.trans (h13.mono (by have := HO.out; omega)), HRS.out.1.same (h13.block _ hSlt), ?_, ?_⟩
        · rw [hBs]
          exact (hRB.congr fun i _ => by simp [upto]).same (hb3.block _ (by omega))
        · rw [hLe]
          exact hRL.congr fun i _ => by simp [upto]
      rw [← hBs, ← hLe]
      clear hRB hb2 hz2 hRL hb3 hz3 hBs hLe HRS hSlt HZ2
      go_loopw [72] (fun i wr => ∃ k : Nat, i = .int .i64 k ∧ k ≤ q1.length ∧ Below B w wr ∧ Row wr S 32 13 q0.length (pStd q0) ∧ Row wr Bs 32 13 q1.length (upto k (pLive q1) zP) ∧ Row wr L 38 5 q1.length (upto k (lpr Bs) zL)) (fun i _ => q1.length - (intOf i).toNat)
      case atStart => exact ⟨0, rfl, Nat.zero_le _, HI2.out.1, HI2.out.2.1, HI2.out.2.2.1, HI2.out.2.2.2⟩
      case round =>
        obtain ⟨k, rfl, hk, hb, hRS, hRB, hRL⟩ := hrel
        clear HI2
        by_cases hkl : k < q1.length
        · obtain ⟨g, off, rfl, c0⟩ := HS1.out.at (by rw [HBE.out]; exact hb) k hkl
          have hkl2 : (k : Int) < q1.length := by omega
          have hz13 : At13 wr Bs (k * 13) (pr 0 ⟨#[]⟩ ⟨#[]⟩ 0 0 0) := by
            have := hRB.at13 k hkl
            rw [show upto k (pLive q1) zP k = zP from by simp [upto]] at this
            exact this
          obtain ⟨r0, r1, r2, r3, r4, r5, r6, r7, r8, r9, r10, r11, r12⟩ := hz13.cells
          have rf := hRB.free
          obtain ⟨hnext, hoth⟩ := hRB.next hkl (f := pLive q1) rfl
          have HN : Hid (∃ W4, W4 = wr.setCells Bs (k * 13) (pLive q1 k) ∧ Row W4 Bs 32 13 q1.length (upto (k + 1) (pLive q1) zP) ∧ Below B w W4 ∧ Row W4 S 32 13 q0.length (pStd q0) ∧ Row W4 L 38 5 q1.length (upto k (lpr Bs) zL)) :=
            ⟨_, rfl, hnext, below_setCells hb hRB (by have := HO.out; omega) (by have := mul_fits (sz := 13) hkl; simp [pLive, pr]; omega), hRS.same (hoth _ (by have := HO.out; omega)), hRL.same (hoth _ (by have := HO.out; omega))⟩
          unfold pLive at HN
          obtain ⟨W4, hW4, hN⟩ := HN.out
          have hN : Hid (Row W4 Bs 32 13 q1.length (upto (k + 1) (pLive q1) zP) ∧ Below B w W4 ∧ Row W4 S 32 13 q0.length (pStd q0) ∧ Row W4 L 38 5 q1.length (upto k (lpr Bs) zL)) := hN
          generalize q1.getD k 0 = z at c0 hW4
          simp only [pr, s0, World.setCells] at hW4
          clear hb hRS hRB hRL hnext hoth hz13 HN
          go_upto_region 15 with fail
          rw [← hW4]
          clear hW4 r0 r1 r2 r3 r4 r5 r6 r7 r8 r9 r10 r11 r12 rf c0
          have hzl : upto k (lpr Bs) zL k = zL := by simp [upto]
          have l0 : W4.cell? ⟨L, k * 5, none⟩ = some (.pointer none) := by have := hN.out.2.2.2.cell k 0 hkl (by omega); rw [hzl] at this; exact this
          have l1 : W4.cell? ⟨L, k * 5 + 1, none⟩ = some (.string ⟨#[]⟩) := by have := hN.out.2.2.2.cell k 1 hkl (by omega); rw [hzl] at this; exact this
          have l2 : W4.cell? ⟨L, k * 5 + 2, none⟩ = some (.int .i64 0) := by have := hN.out.2.2.2.cell k 2 hkl (by omega); rw [hzl] at this; exact this
          have l3 : W4.cell? ⟨L, k * 5 + 3, none⟩ = some (.float .f64 0) := by have := hN.out.2.2.2.cell k 3 hkl (by omega); rw [hzl] at this; exact this
          have l4 : W4.cell? ⟨L, k * 5 + 4, none⟩ = some (.int .u64 0) := by have := hN.out.2.2.2.cell k 4 hkl (by omega); rw [hzl] at this; exact this
          have lf := hN.out.2.2.2.free
          obtain ⟨hnL, hoL⟩ := hN.out.2.2.2.next hkl (f := lpr Bs) rfl
          have HN2 : Hid (Row (W4.setCells L (k * 5) (lpr Bs k)) L 38 5 q1.length (upto (k + 1) (lpr Bs) zL) ∧ Row (W4.setCells L (k * 5) (lpr Bs k)) Bs 32 13 q1.length (upto (k + 1) (pLive q1) zP) ∧ Row (W4.setCells L (k * 5) (lpr Bs k)) S 32 13 q0.length (pStd q0) ∧ Below B w (W4.setCells L (k * 5) (lpr Bs k))) :=
            ⟨hnL, hN.out.1.same (hoL _ (by have := HO.out; omega)), hN.out.2.2.1.same (hoL _ (by have := HO.out; omega)), below_setCells hN.out.2.1 hN.out.2.2.2 (by have := HO.out; omega) (by have := mul_fits (sz := 5) hkl; simp [lpr]; omega)⟩
          simp only [lpr, World.setCells] at HN2
          have hst := state_any k (by omega)
          have hhalf := half_run k (by omega)
          clear hN hnL hoL hzl
          go_wp2_with fail
          refine (hst _).mono ?_
          rintro e w9 ⟨rfl, rfl⟩
          go_wp2
          go_roundw
          case rel => exact ⟨k + 1, by simp, by omega, HN2.out.2.2.2, HN2.out.2.2.1, HN2.out.2.1, HN2.out.1⟩
          case measure => simp [intOf]; omega
        · obtain rfl : k = q1.length := by omega
          have HK : Hid (K4 B S Bs L q0 q1 w wr) := ⟨hb, hRS, hRB.congr fun i hi => by simp [upto, hi], hRL.congr fun i hi => by simp [upto, hi], by have := hRS.lt; have := HO.out; omega⟩
          clear hb hRS hRB hRL hkl hk
          go_wp2_with fail
          refine (at_any 100 wr (by omega)).mono ?_
          rintro e W5 ⟨rfl, hb5⟩
          have HK5 : Hid (K4 B S Bs L q0 q1 w W5) := HK.out.keep hb5
          clear hb5 HK
          simp only [tm]
          go_wp2_with fail
          refine (at_any 200 W5 (by omega)).mono ?_
          rintro e W6 ⟨rfl, hb6⟩
          have HK6 : Hid (K4 B S Bs L q0 q1 w W6) := HK5.out.keep hb6
          clear hb6 HK5
          simp only [tm]
          go_wp2_with fail
          refine (at_any ls W6 bs).mono ?_
          rintro e W7 ⟨rfl, hb7⟩
          have HK7 : Hid (K4 B S Bs L q0 q1 w W7) := HK6.out.keep hb7
          clear hb7 HK6
          simp only [tm]
          go_wp2_with fail
          refine (at_any ll W7 bl).mono ?_
          rintro e W8 ⟨rfl, hb8⟩
          have HK8 : Hid (K4 B S Bs L q0 q1 w W8) := HK7.out.keep hb8
          clear hb8 HK7
          simp only [tm]
          have honeH : (#[.string ⟨#[]⟩, .string ⟨#[]⟩, .int .u64 0, .int .i64 100, .pointer none, .float .f64 0, .slice (some ⟨S, 0, none⟩) q0.length q0.length, .slice none 0 0, .slice none 0 0, .slice none 0 0, .int .u64 0, .int .i64 200, .pointer none, .slice (some ⟨L, 0, none⟩) q1.length q1.length, .int .u64 0, .int .i64 ls, .pointer none, .int .u64 0, .int .i64 ll, .pointer none, .int .i64 0, .int .i64 0] : Array Value).all (·.oneCell') = true := by simp [Value.oneCell']
          go_upto_region 22 with ((with_reducible refine new52 20 131 #[.string ⟨#[]⟩, .string ⟨#[]⟩, .int .u64 0, .int .i64 100, .pointer none, .float .f64 0, .slice (some ⟨S, 0, none⟩) q0.length q0.length, .slice none 0 0, .slice none 0 0, .slice none 0 0, .int .u64 0, .int .i64 200, .pointer none, .slice (some ⟨L, 0, none⟩) q1.length q1.length, .int .u64 0, .int .i64 ls, .pointer none, .int .u64 0, .int .i64 ll, .pointer none, .int .i64 0, .int .i64 0] ?_ honeH ?_ ?_ ?_ ?_ ?_ ?_ ?_ ?_ ?_ ?_); rfl; omega; rfl; rfl; rfl; rfl; rfl; rfl; (show 20 < 439; omega); rfl)
          clear honeH
          obtain ⟨W9, hW9⟩ : ∃ W9, W9 = W8.alloc (.cells #[.string ⟨#[]⟩, .string ⟨#[]⟩, .int .u64 0, .int .i64 100, .pointer none, .float .f64 0, .slice (some ⟨S, 0, none⟩) q0.length q0.length, .slice none 0 0, .slice none 0 0, .slice none 0 0, .int .u64 0, .int .i64 200, .pointer none, .slice (some ⟨L, 0, none⟩) q1.length q1.length, .int .u64 0, .int .i64 ls, .pointer none, .int .u64 0, .int .i64 ll, .pointer none, .int .i64 0, .int .i64 0] 52) := ⟨_, rfl⟩
          have hK9 : K4 B S Bs L q0 q1 w W9 := by rw [hW9]; exact HK8.out.keep ((Below.refl _ _).alloc (Nat.le_refl _) _)
          have hH9 : W9.heap[W8.heap.size]? = some (.cells #[.string ⟨#[]⟩, .string ⟨#[]⟩, .int .u64 0, .int .i64 100, .pointer none, .float .f64 0, .slice (some ⟨S, 0, none⟩) q0.length q0.length, .slice none 0 0, .slice none 0 0, .slice none 0 0, .int .u64 0, .int .i64 200, .pointer none, .slice (some ⟨L, 0, none⟩) q1.length q1.length, .int .u64 0, .int .i64 ls, .pointer none, .int .u64 0, .int .i64 ll, .pointer none, .int .i64 0, .int .i64 0] 52 (0, 0)) := by rw [hW9]; exact heap_alloc_new W8 _
          rw [← hW9]
          generalize W8.heap.size = Hb at hH9 ⊢
          clear hW9 HK8
          obtain ⟨lm, hlm⟩ : ∃ lm, lm = lmB ls ll now := ⟨_, rfl⟩
          obtain ⟨r, hr⟩ := First.exists (if lm then q1 else q0) pid
          obtain ⟨pp, pc, ps, pt, pf, pu, hpr⟩ := resP_pr lm pid r
          refine region22 (Hb := Hb) (hv := #[.string ⟨#[]⟩, .string ⟨#[]⟩, .int .u64 0, .int .i64 100, .pointer none, .float .f64 0, .slice (some ⟨S, 0, none⟩) q0.length q0.length, .slice none 0 0, .slice none 0 0, .slice none 0 0, .int .u64 0, .int .i64 200, .pointer none, .slice (some ⟨L, 0, none⟩) q1.length q1.length, .int .u64 0, .int .i64 ls, .pointer none, .int .u64 0, .int .i64 ll, .pointer none, .int .i64 0, .int .i64 0]) (pid := pid) (now := now) (pl := resP lm pid r) (tt := resT lm r) (okb := r.isSome) ⟨by show 141 ≤ 439; omega, rfl, rfl, rfl, hH9, rfl, fun X => at_any now X bn, fun X hX => ?_, by rw [hpr]; rfl, by rw [hpr]; exact pr_one ..⟩ ?_
          · have hKX := hK9.keep hX
            refine (latest_any S Bs L q0 q1 pid ls ll now X hKX.s hKX.b hKX.l (by omega) (by omega) bl bn).mono ?_
            rintro e w' ⟨r', hr', rfl, hb'⟩
            rw [← hlm] at hr' ⊢
            obtain rfl := First.unique hr' hr
            exact ⟨rfl, hb'⟩
          intro a wd R T hO
          have HR : Hid (First (if lm then q1 else q0) pid r ∧ lm = lmB ls ll now ∧ K4 B S Bs L q0 q1 w wd ∧ Pb wd R (resP lm pid r) ∧ Tb wd T (resT lm r) ∧ Below W9.heap.size W9 wd) := ⟨hr, hlm, hK9.keep hO.low, hO.p, hO.t, hO.low⟩
          obtain ⟨u132, u133, u134, u135, u136, u137, u138, u139, u140, ha⟩ := hO.frame (by show 141 ≤ 439; omega)
          subst ha
          simp only [List.setIfInBounds_toArray, List.set_cons_succ, List.set_cons_zero]
          have HPR : Hid (resP lm pid r = pr pp pc ps pt pf pu) := hpr
          clear hO hr hlm hK9 hH9 hpr
          obtain ⟨hF1, hlm1, hK1, hP1, hT1, _⟩ := HR.out
          have HR1 : Hid (First (if lm then q1 else q0) pid r ∧ lm = lmB ls ll now) := ⟨hF1, hlm1⟩
          have HK5 : Hid (K5 B S Bs L q0 q1 w R T (resP lm pid r) (resT lm r) wd) := ⟨hK1, hP1, hT1⟩
          clear HR hF1 hlm1 hK1 hP1 hT1 hsf
          go_wp2_with fail
          go_loopw [24, 143] (fun g i wr => g = .bool true ∧ ∃ k : Nat, i = .int .i64 k ∧ k ≤ q1.length ∧ K5 B S Bs L q0 q1 w R T (resP lm pid r) (resT lm r) wr) (fun _ i _ => q1.length - (intOf i).toNat)
          case atStart => exact ⟨rfl, 0, rfl, Nat.zero_le _, HK5.out⟩
          case round =>
            obtain ⟨rfl, k, rfl, hk, hK⟩ := hrel
            by_cases hkl : k < q1.length
            · obtain ⟨g, off, rfl, c0⟩ := HS1.out.at (by rw [HBE.out]; exact hK.k.low) k hkl
              have hkl2 : (k : Int) < q1.length := by omega
              have hload := hK.k.b.range k hkl
              have HK6 : Hid (K5 B S Bs L q0 q1 w R T (resP lm pid r) (resT lm r) wr) := hK
              unfold pLive at hload
              generalize q1.getD k 0 = z at c0 hload
              clear hK
              go_upto_region 28 with (first | ((with_reducible refine load32 150 Bs (k * 13) (pr z ⟨#[108, 105, 118, 101]⟩ ⟨#[88]⟩ (-1) 0 0) hload ?_ ?_ ?_ ?_ ?_); rfl; rfl; rfl; rfl) | ((with_reducible refine new32 27 151 (pr z ⟨#[108, 105, 118, 101]⟩ ⟨#[88]⟩ (-1) 0 0) ?_ (pr_one ..) ?_ ?_ ?_ ?_ ?_ ?_ ?_ ?_ ?_ ?_); rfl; omega; rfl; rfl; rfl; rfl; rfl; rfl; (show 27 < 439; omega); rfl))
              obtain ⟨W10, hW10⟩ : ∃ W10, W10 = wr.alloc (.cells (pr z ⟨#[108, 105, 118, 101]⟩ ⟨#[88]⟩ (-1) 0 0).toArray 32) := ⟨_, rfl⟩
              have HK7 : Hid (K5 B S Bs L q0 q1 w R T (resP lm pid r) (resT lm r) W10) := by rw [hW10]; exact HK6.out.keep ((Below.refl _ _).alloc (Nat.le_refl _) _)
              have hP : Pb W10 wr.heap.size (pr z ⟨#[108, 105, 118, 101]⟩ ⟨#[88]⟩ (-1) 0 0) := by rw [hW10]; exact heap_alloc_new wr _
              rw [← hW10]
              generalize wr.heap.size = N at hP ⊢
              obtain ⟨p0, p1, p2, p3, p4, p5, p6, p7, p8, p9, p10, p11, p12⟩ := (hP.at rfl).1.cells
              clear hP hW10 HK6 c0 hload
              go_wp2
              go_roundw
              case rel => exact ⟨rfl, k + 1, by simp, by omega, HK7.out⟩
              case measure => simp [intOf]; omega
            · obtain rfl : k = q1.length := by omega
              have HK6 : Hid (K5 B S Bs L q0 q1 w R T (resP lm pid r) (resT lm r) wr) := hK
              clear hK hk hkl
              go_wp2_with fail
              clear HK5
              go_loopw [24, 184] (fun g i wr => g = .bool true ∧ ∃ k : Nat, i = .int .i64 k ∧ k ≤ q0.length ∧ K5 B S Bs L q0 q1 w R T (resP lm pid r) (resT lm r) wr) (fun _ i _ => q0.length - (intOf i).toNat)
              case atStart => exact ⟨rfl, 0, rfl, Nat.zero_le _, HK6.out⟩
              case round =>
                obtain ⟨rfl, k, rfl, hk, hK⟩ := hrel
                clear HK6
                by_cases hkl : k < q0.length
                · obtain ⟨g, off, rfl, c0⟩ := HS0.out.at (by rw [HBE.out]; exact hK.k.low) k hkl
                  have hkl2 : (k : Int) < q0.length := by omega
                  have hload := hK.k.s.range k hkl
                  have HK6 : Hid (K5 B S Bs L q0 q1 w R T (resP lm pid r) (resT lm r) wr) := hK
                  unfold pStd at hload
                  generalize q0.getD k 0 = z at c0 hload
                  clear hK
                  go_upto_region 35 with (first | ((with_reducible refine load32 191 S (k * 13) (pr z ⟨#[115, 116, 100]⟩ ⟨#[84]⟩ (100 + (k : Int)) 0 0) hload ?_ ?_ ?_ ?_ ?_); rfl; rfl; rfl; rfl) | ((with_reducible refine new32 30 192 (pr z ⟨#[115, 116, 100]⟩ ⟨#[84]⟩ (100 + (k : Int)) 0 0) ?_ (pr_one ..) ?_ ?_ ?_ ?_ ?_ ?_ ?_ ?_ ?_ ?_); rfl; omega; rfl; rfl; rfl; rfl; rfl; rfl; (show 30 < 439; omega); rfl))
                  obtain ⟨W10, hW10⟩ : ∃ W10, W10 = wr.alloc (.cells (pr z ⟨#[115, 116, 100]⟩ ⟨#[84]⟩ (100 + (k : Int)) 0 0).toArray 32) := ⟨_, rfl⟩
                  have HK7 : Hid (K5 B S Bs L q0 q1 w R T (resP lm pid r) (resT lm r) W10) := by rw [hW10]; exact HK6.out.keep ((Below.refl _ _).alloc (Nat.le_refl _) _)
                  have hP : Pb W10 wr.heap.size (pr z ⟨#[115, 116, 100]⟩ ⟨#[84]⟩ (100 + (k : Int)) 0 0) := by rw [hW10]; exact heap_alloc_new wr _
                  rw [← hW10]
                  generalize wr.heap.size = N at hP ⊢
                  obtain ⟨p0, p1, p2, p3, p4, p5, p6, p7, p8, p9, p10, p11, p12⟩ := (hP.at rfl).1.cells
                  clear hP hW10 HK6 c0 hload
                  go_wp2
                  go_roundw
                  case rel => exact ⟨rfl, k + 1, by simp, by omega, HK7.out⟩
                  case measure => simp [intOf]; omega
                · obtain rfl : k = q0.length := by omega
                  have hP := hK.p
                  rw [HPR.out] at hP
                  obtain ⟨p0, p1, p2, p3, p4, p5, p6, p7, p8, p9, p10, p11, p12⟩ := (hP.at rfl).1.cells
                  have HK6 : Hid (K5 B S Bs L q0 q1 w R T (resP lm pid r) (resT lm r) wr) := hK
                  have hsn := sliceNe
                  clear hK hk hkl hP
                  go_wp2_with fail
                  refine (isZero_any 0 wr).mono ?_
                  rintro e W11 ⟨rfl, hb11⟩
                  have HK7 : Hid (K5 B S Bs L q0 q1 w R T (resP lm pid r) (resT lm r) W11) := HK6.out.keep hb11
                  clear hb11 HK6 hsn p0 p1 p2 p3 p4 p5 p6 p7 p8 p9 p10 p11 p12
                  go_upto_region 42 with fail
                  go_cut [31] from 241 to 251 (fun v wd => v = .bool lm ∧ K5 B S Bs L q0 q1 w R T (resP lm pid r) (resT lm r) wd)
                  case first =>
                    obtain ⟨_, hlm⟩ := HR1.out
                    by_cases h3 : now - ll < 3
                    · have e : lm = true := by rw [hlm]; unfold lmB; simp [h3]
                      have HE : Hid (lm = true) := e
                      clear hlm e
                      go_wp2
                      go_meet
                      exact ⟨by rw [HE.out], HK7.out⟩
                    · by_cases h4 : ls < ll
                      · have e : lm = true := by rw [hlm]; unfold lmB; simp [h4]
                        have HE : Hid (lm = true) := e
                        clear hlm e
                        go_wp2
                        go_meet
                        exact ⟨by rw [HE.out], HK7.out⟩
                      · have e : lm = false := by rw [hlm]; unfold lmB; simp [h3, h4]
                        have HE : Hid (lm = false) := e
                        clear hlm e
                        go_wp2
                        go_meet
                        exact ⟨by rw [HE.out], HK7.out⟩
                  case rest =>
                    obtain ⟨rfl, hK⟩ := hcut
                    have HK8 : Hid (K5 B S Bs L q0 q1 w R T (resP lm pid r) (resT lm r) wc) := hK
                    clear hK HK7
                    cases lm
                    · go_wp2_with fail
                      go_loopw [35, 352] (fun j i wr => j = .int .i64 (-1) ∧ wr = wc ∧ ∃ k : Nat, i = .int .i64 k ∧ k ≤ q0.length ∧ ∀ i, i < k → q0.getD i 0 ≠ pid) (fun _ i _ => q0.length - (intOf i).toNat)
                      case atStart => exact ⟨rfl, rfl, 0, rfl, Nat.zero_le _, fun i hi => by omega⟩
                      case round =>
                        obtain ⟨rfl, rfl, k, rfl, hk, hne⟩ := hrel
                        have HN : Hid (∀ i, i < k → q0.getD i 0 ≠ pid) := hne
                        clear hne
                        by_cases hkl : k < q0.length
                        · obtain ⟨g, off, rfl, c0⟩ := HS0.out.at (by rw [HBE.out]; exact HK8.out.k.low) k hkl
                          have hkl2 : (k : Int) < q0.length := by omega
                          by_cases he : q0.getD k 0 = pid
                          · obtain rfl := First.unique HR1.out.1 (show First q0 pid (some k) from ⟨hkl, he, HN.out⟩)
                            rw [he] at c0
                            clear he
                            go_upto_region 63 with fail
                            have HC : Hid (∀ w', Hid (K5 B S Bs L q0 q1 w R T (resP false pid (some k)) (resT false (some k)) w') → (w'.cell? ⟨R, 0, none⟩ = some (.int .i64 pid) ∧ w'.cell? ⟨R, 2, none⟩ = some (.string ⟨#[115, 116, 100]⟩) ∧ w'.cell? ⟨R, 5, none⟩ = some (.string ⟨#[84]⟩) ∧ w'.cell? ⟨R, 6, none⟩ = some (.int .i64 (100 + (k : Int))) ∧ w'.cell? ⟨R, 10, none⟩ = some (.float .f64 0) ∧ w'.cell? ⟨R, 11, none⟩ = some (.int .u64 0) ∧ w'.cell? ⟨T, 0, none⟩ = some (.int .u64 0) ∧ w'.cell? ⟨T, 1, none⟩ = some (.int .i64 100) ∧ w'.cell? ⟨T, 2, none⟩ = some (.pointer none))) := by
                              intro w' hw'
                              obtain ⟨p0, p1, p2, p3, p4, p5, p6, p7, p8, p9, p10, p11, p12⟩ := (show At13 w' R 0 (pr pid ⟨#[115, 116, 100]⟩ ⟨#[84]⟩ (100 + (k : Int)) 0 0) from (hw'.out.p.at rfl).1).cells
                              obtain ⟨n0, n1, n2, _⟩ := (show Tb w' T 100 from hw'.out.t).cells
                              exact ⟨p0, p2, p5, p6, p10, p11, n0, n1, n2⟩
                            have HKd : Hid (K5 B S Bs L q0 q1 w R T (resP false pid (some k)) (resT false (some k)) wr.drew) := HK8.out.keep (Below.refl _ _).drew
                            have hw1 : IntKind.i64.wrap (100 + (k : Int)) = 100 + (k : Int) := wrap_small _ (by omega) (by omega)
                            clear HN hkl hk c0
                            go_region_held3 (fun w' => w'.cell? ⟨R, 0, none⟩ = some (.int .i64 pid) ∧ w'.cell? ⟨R, 2, none⟩ = some (.string ⟨#[115, 116, 100]⟩) ∧ w'.cell? ⟨R, 5, none⟩ = some (.string ⟨#[84]⟩) ∧ w'.cell? ⟨R, 6, none⟩ = some (.int .i64 (100 + (k : Int))) ∧ w'.cell? ⟨R, 10, none⟩ = some (.float .f64 0) ∧ w'.cell? ⟨R, 11, none⟩ = some (.int .u64 0) ∧ w'.cell? ⟨T, 0, none⟩ = some (.int .u64 0) ∧ w'.cell? ⟨T, 1, none⟩ = some (.int .i64 100) ∧ w'.cell? ⟨T, 2, none⟩ = some (.pointer none)) (exact HC.out _ (by assumption))
                              (first | (go_at_call 6; refine (at_any 100 _ (by omega)).mono ?_; rintro e w8 ⟨rfl, hb8⟩; have HK9 : Hid (K5 B S Bs L q0 q1 w R T (resP false pid (some k)) (resT false (some k)) w8) := HKd.out.keep hb8; simp only [tm]; clear hb8) | (go_at_call 9; refine (equal_any 100 100 _).mono ?_; rintro e w9 ⟨rfl, hb9⟩; have HK10 : Hid (K5 B S Bs L q0 q1 w R T (resP false pid (some k)) (resT false (some k)) w9) := HK9.out.keep hb9; clear hb9))
                            all_goals
                              have HB : Hid (Below w.heap.size w w9) := by rw [HBE.out]; exact HK10.out.k.low
                              go_wp2
                              go_ret
                              exact ⟨rfl, HB.out⟩
                          · have HE : Hid (q0.getD k 0 ≠ pid) := he
                            generalize hz : q0.getD k 0 = z at c0 he
                            have HZ : Hid (q0.getD k 0 = z) := hz
                            clear hz
                            go_wp2
                            go_roundw
                            case rel =>
                              refine ⟨by trivial, by trivial, k + 1, by simp, by omega, fun i hi => ?_⟩
                              by_cases e : i = k
                              · rw [e]; exact HE.out
                              · exact HN.out i (by omega)
                            case measure => simp [intOf]; omega
                        · obtain rfl : k = q0.length := by omega
                          obtain rfl := First.unique HR1.out.1 (show First q0 pid none from HN.out)
                          have hP := HK8.out.p
                          obtain ⟨p0, p1, p2, p3, p4, p5, p6, p7, p8, p9, p10, p11, p12⟩ := (show At13 _ R 0 (pr 0 ⟨#[]⟩ ⟨#[]⟩ 0 0 0) from (hP.at rfl).1).cells
                          obtain ⟨n0, n1, n2, _⟩ := (show Tb _ T 0 from HK8.out.t).cells
                          clear hP hk hkl
                          go_wp2_with fail
                          refine (isZero_any 0 _).mono ?_
                          rintro e W11 ⟨rfl, hb11⟩
                          have HB : Hid (Below w.heap.size w W11) := by rw [HBE.out]; exact (HK8.out.keep hb11).k.low
                          clear hb11
                          go_wp2
                          go_ret
                          exact ⟨rfl, HB.out⟩
                    · go_wp2_with fail
                      go_loopw [32, 255] (fun j i wr => j = .int .i64 (-1) ∧ wr = wc ∧ ∃ k : Nat, i = .int .i64 k ∧ k ≤ q1.length ∧ ∀ i, i < k → q1.getD i 0 ≠ pid) (fun _ i _ => q1.length - (intOf i).toNat)
                      case atStart => exact ⟨rfl, rfl, 0, rfl, Nat.zero_le _, fun i hi => by omega⟩
                      case round =>
                        obtain ⟨rfl, rfl, k, rfl, hk, hne⟩ := hrel
                        have HN : Hid (∀ i, i < k → q1.getD i 0 ≠ pid) := hne
                        clear hne
                        by_cases hkl : k < q1.length
                        · obtain ⟨g, off, rfl, c0⟩ := HS1.out.at (by rw [HBE.out]; exact HK8.out.k.low) k hkl
                          have hkl2 : (k : Int) < q1.length := by omega
                          by_cases he : q1.getD k 0 = pid
                          · obtain rfl := First.unique HR1.out.1 (show First q1 pid (some k) from ⟨hkl, he, HN.out⟩)
                            rw [he] at c0
                            clear he
                            go_upto_region 53 with fail
                            have HC : Hid (∀ w', Hid (K5 B S Bs L q0 q1 w R T (resP true pid (some k)) (resT true (some k)) w') → (w'.cell? ⟨R, 0, none⟩ = some (.int .i64 pid) ∧ w'.cell? ⟨R, 2, none⟩ = some (.string ⟨#[108, 105, 118, 101]⟩) ∧ w'.cell? ⟨R, 5, none⟩ = some (.string (stB k)) ∧ w'.cell? ⟨R, 6, none⟩ = some (.int .i64 ((k : Int) + 1)) ∧ w'.cell? ⟨R, 10, none⟩ = some (.float .f64 (hf k)) ∧ w'.cell? ⟨R, 11, none⟩ = some (.int .u64 ((k : Int) * 4)) ∧ w'.cell? ⟨T, 0, none⟩ = some (.int .u64 0) ∧ w'.cell? ⟨T, 1, none⟩ = some (.int .i64 200) ∧ w'.cell? ⟨T, 2, none⟩ = some (.pointer none))) := by
                              intro w' hw'
                              obtain ⟨p0, p1, p2, p3, p4, p5, p6, p7, p8, p9, p10, p11, p12⟩ := (show At13 w' R 0 (pr pid ⟨#[108, 105, 118, 101]⟩ (stB k) ((k : Int) + 1) (hf k) ((k : Int) * 4)) from (hw'.out.p.at rfl).1).cells
                              obtain ⟨n0, n1, n2, _⟩ := (show Tb w' T 200 from hw'.out.t).cells
                              exact ⟨p0, p2, p5, p6, p10, p11, n0, n1, n2⟩
                            have HKd : Hid (K5 B S Bs L q0 q1 w R T (resP true pid (some k)) (resT true (some k)) wr.drew) := HK8.out.keep (Below.refl _ _).drew
                            have hhalf := half_run k (by omega)
                            have hord := (half_ok k (by omega)).2
                            have hw1 : IntKind.i64.wrap ((k : Int) + 1) = (k : Int) + 1 := wrap_small _ (by omega) (by omega)
                            have hw2 : IntKind.u64.wrap ((k : Int) * 4) = (k : Int) * 4 := by rw [IntKind.wrap_u64]; omega
                            have hw3 : IntKind.u64.wrap (k : Int) = (k : Int) := by rw [IntKind.wrap_u64]; omega
                            clear HN hkl hk c0
                            go_region_held3 (fun w' => w'.cell? ⟨R, 0, none⟩ = some (.int .i64 pid) ∧ w'.cell? ⟨R, 2, none⟩ = some (.string ⟨#[108, 105, 118, 101]⟩) ∧ w'.cell? ⟨R, 5, none⟩ = some (.string (stB k)) ∧ w'.cell? ⟨R, 6, none⟩ = some (.int .i64 ((k : Int) + 1)) ∧ w'.cell? ⟨R, 10, none⟩ = some (.float .f64 (hf k)) ∧ w'.cell? ⟨R, 11, none⟩ = some (.int .u64 ((k : Int) * 4)) ∧ w'.cell? ⟨T, 0, none⟩ = some (.int .u64 0) ∧ w'.cell? ⟨T, 1, none⟩ = some (.int .i64 200) ∧ w'.cell? ⟨T, 2, none⟩ = some (.pointer none)) (exact HC.out _ (by assumption))
                              (first | (go_at_call 5; refine (state_any k (by omega) _).mono ?_; rintro e w' ⟨rfl, rfl⟩) | (go_at_call 6; refine (at_any 200 _ (by omega)).mono ?_; rintro e w8 ⟨rfl, hb8⟩; have HK9 : Hid (K5 B S Bs L q0 q1 w R T (resP true pid (some k)) (resT true (some k)) w8) := HKd.out.keep hb8; simp only [tm]; clear hb8) | (go_at_call 9; refine (equal_any 200 200 _).mono ?_; rintro e w9 ⟨rfl, hb9⟩; have HK10 : Hid (K5 B S Bs L q0 q1 w R T (resP true pid (some k)) (resT true (some k)) w9) := HK9.out.keep hb9; clear hb9))
                            all_goals
                              have HB : Hid (Below w.heap.size w w9) := by rw [HBE.out]; exact HK10.out.k.low
                              go_wp2
                              go_ret
                              exact ⟨rfl, HB.out⟩
                          · have HE : Hid (q1.getD k 0 ≠ pid) := he
                            generalize hz : q1.getD k 0 = z at c0 he
                            have HZ : Hid (q1.getD k 0 = z) := hz
                            clear hz
                            go_wp2
                            go_roundw
                            case rel =>
                              refine ⟨by trivial, by trivial, k + 1, by simp, by omega, fun i hi => ?_⟩
                              by_cases e : i = k
                              · rw [e]; exact HE.out
                              · exact HN.out i (by omega)
                            case measure => simp [intOf]; omega
                        · obtain rfl : k = q1.length := by omega
                          obtain rfl := First.unique HR1.out.1 (show First q1 pid none from HN.out)
                          have hP := HK8.out.p
                          obtain ⟨p0, p1, p2, p3, p4, p5, p6, p7, p8, p9, p10, p11, p12⟩ := (show At13 _ R 0 (pr 0 ⟨#[]⟩ ⟨#[]⟩ 0 0 0) from (hP.at rfl).1).cells
                          obtain ⟨n0, n1, n2, _⟩ := (show Tb _ T 0 from HK8.out.t).cells
                          clear hP hk hkl
                          go_wp2_with fail
                          refine (isZero_any 0 _).mono ?_
                          rintro e W11 ⟨rfl, hb11⟩
                          have HB : Hid (Below w.heap.size w W11) := by rw [HBE.out]; exact (HK8.out.keep hb11).k.low
                          clear hb11
                          go_wp2
                          go_ret
                          exact ⟨rfl, HB.out⟩

end Go.Proofs.Ybulkbofk
