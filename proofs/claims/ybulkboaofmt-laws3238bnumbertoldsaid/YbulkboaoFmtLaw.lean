/-
  The walk of 'LawS3238BNumber'.
-/
import Derived.Test.YbulkboaoFmtEnd
namespace Go.Proofs.YbulkboaoFmt
open Go.Extern.Stop Go.Stop Go.Extern Go.RowKit

theorem Ybaf.info30 : (Ybaf.prog.info? 30).map (fun i => (i.zero, i.size, i.bytes)) = some (some (.agg #[.string ⟨#[]⟩, .string ⟨#[]⟩, .string ⟨#[]⟩, .int .i64 0, .pointer none]), 5, 64) := by kernel_rfl

theorem Ybaf.assert38 (a : Addr) (w : World) : (Instr.typeAssert (.iface 38 (.pointer (some a))) 35 38 true).run Ybaf.prog w = .ok (.tuple #[.pointer (some a), .bool true]) w := by kernel_rfl
attribute [local go_sem] Ybaf.assert38

/-- A token of the law's make: kind, text, value, position. -/
def tokL (t : ByteArray × ByteArray × ByteArray × Int) : List Value := [.string t.1, .string t.2.1, .string t.2.2.1, .int .i64 t.2.2.2, .pointer none]
def toksL (ts : List (ByteArray × ByteArray × ByteArray × Int)) : List Value := ts.flatMap tokL
theorem toksL_snoc (ts : List (ByteArray × ByteArray × ByteArray × Int)) (k s v : ByteArray) (p : Int) : toksL ts ++ [.string k, .string s, .string v, .int .i64 p, .pointer none] = toksL (ts ++ [(k, s, v, p)]) := by
  simp [toksL, tokL]
theorem toksL_get : ∀ (ts : List (ByteArray × ByteArray × ByteArray × Int)) (i : Nat) (h : i < ts.length) (j : Nat), j < 5 → (toksL ts)[i * 5 + j]? = (tokL ts[i])[j]?
  | [], _, h, _, _ => absurd h (by simp)
  | t :: ts, 0, _, j, hj => by
    have : j < (tokL t).length := by simpa [tokL] using hj
    simp only [toksL, List.flatMap_cons, Nat.zero_mul, Nat.zero_add, List.getElem_cons_zero]
    rw [List.getElem?_append_left this]
  | t :: ts, i + 1, h, j, hj => by
    have ih := toksL_get ts i (by simpa using h) j hj
    have hl : (tokL t).length = 5 := rfl
    simp only [toksL, List.flatMap_cons, List.getElem_cons_succ]
    rw [List.getElem?_append_right (by rw [hl]; omega), hl]
    rw [show (i + 1) * 5 + j - 5 = i * 5 + j from by omega]
    exact ih

theorem tok_news (w : World) (e : TypeId) (x0 x1 x2 x3 x4 : Value) : ∀ j u, [x0, x1, x2, x3, x4][j]? = some u → (w.alloc (.cells #[x0, x1, x2, x3, x4] e)).cell? ((⟨w.heap.size, 0, none⟩ : Addr).add j) = some u := by
  intro j u hj
  match j, hj with
  | 0, hj => simp at hj; subst hj; simp [Addr.add]
  | 1, hj => simp at hj; subst hj; simp [Addr.add]
  | 2, hj => simp at hj; subst hj; simp [Addr.add]
  | 3, hj => simp at hj; subst hj; simp [Addr.add]
  | 4, hj => simp at hj; subst hj; simp [Addr.add]

theorem owns_tok {w : World} {base g n cap i : Nat} {ts : List (ByteArray × ByteArray × ByteArray × Int)} (h : w.ownsRow base 30 5 (.slice (some ⟨g, 0, none⟩) n cap) n (toksL ts)) (hi : i < ts.length) :
    ∃ (k s v : ByteArray) (p : Int), w.cell? ⟨g, i * 5, none⟩ = some (.string k) ∧ w.cell? ⟨g, i * 5 + 1, none⟩ = some (.string s) ∧ w.cell? ⟨g, i * 5 + 2, none⟩ = some (.string v) ∧
      w.cell? ⟨g, i * 5 + 3, none⟩ = some (.int .i64 p) ∧ w.cell? ⟨g, i * 5 + 4, none⟩ = some (.pointer none) := by
  have hadd : ∀ j, (⟨g, 0, none⟩ : Addr).add j = ⟨g, j, none⟩ := fun j => by unfold Addr.add; split <;> simp_all
  have hc : ∀ j, j < 5 → ∀ u, (tokL ts[i])[j]? = some u → w.cell? ⟨g, i * 5 + j, none⟩ = some u := fun j hj u hu => by
    have := h.cells (g := g) rfl (i * 5 + j) u (by rw [toksL_get ts i hi j hj]; exact hu)
    rwa [hadd] at this
  exact ⟨ts[i].1, ts[i].2.1, ts[i].2.2.1, ts[i].2.2.2, hc 0 (by omega) _ rfl, hc 1 (by omega) _ rfl, hc 2 (by omega) _ rfl, hc 3 (by omega) _ rfl, hc 4 (by omega) _ rfl⟩

set_option maxRecDepth 100000 in
set_option maxHeartbeats 1000000 in
theorem law_any (F : Interp) (a0 a1 : Option Addr) (len0 cap0 len1 cap1 : Nat) (pos start : Int) (w : World) (hF : F.answers w.tape)
    (hl : len0 ≤ 1024) (hl1 : len1 ≤ 140737488355328) (hs0 : 0 ≤ start)
    (hrow0 : 0 < len0 → ∃ b off, a0 = some ⟨b, off, none⟩ ∧ b < w.heap.size ∧ ∀ i, i < len0 → ∃ z : Int, 0 ≤ z ∧ z ≤ 255 ∧ w.cell? ⟨b, off + i, none⟩ = some (.int .u8 z))
    (hrow1 : 0 < len1 → ∃ b off, a1 = some ⟨b, off, none⟩ ∧ b < w.heap.size ∧ ∀ i, i < len1 → ∃ s : ByteArray, s.size ≤ 140737488355328 ∧ w.cell? ⟨b, off + i, none⟩ = some (.string s)) :
    Calls Ybaf.prog 3 #[.slice a0 len0 cap0, .slice a1 len1 cap1, .int .i64 pos, .int .u64 start] w fun e w' => e = .returned (.bool true) ∧ Below w.heap.size w w' := by
  obtain ⟨i0, hi, hz0, hz1, hz2⟩ := info_parts Ybaf.info30
  go_enter Ybaf.func3, Ybaf.ntmps3
  go_wp2_with (first | (at_make; refine wpList_make_own _ rfl _ _ 25 rfl w.heap.size 30 i0 _ 5 Ybaf.underlying25 hi hz0 hz1 .i64 .i64 _ (len0 + 1) rfl rfl (by simp) (by rw [hz2]; omega) (by unfold maxLen; omega) (Nat.le_refl _) ?_; intro w1 ho1 hg1))
  have hb1 : Below w.heap.size w w1 := (Below.refl _ _).grown hg1 (Nat.le_refl _) (by simp)
  clear hg1
  go_loopw [10, 11] (fun v i wr => ∃ (k : Nat) (ts : List (ByteArray × ByteArray × ByteArray × Int)), k ≤ len0 ∧ ts.length = k ∧ i = .int .i64 k ∧ v = .slice (some ⟨w.heap.size, 0, none⟩) k (len0 + 1) ∧
        wr.ownsRow w.heap.size 30 5 v k (toksL ts) ∧ Below w.heap.size w wr) (fun _ i _ => len0 - (intOf i).toNat)
  case atStart => exact ⟨0, [], Nat.zero_le _, rfl, rfl, rfl, ho1, hb1⟩
  case round =>
    obtain ⟨k, ts, hk, htl, rfl, rfl, hown, hbel⟩ := hrel
    have HT : Hid (_ = _) := htl
    clear ho1 hb1 htl
    by_cases hlt : k < len0
    · obtain ⟨b, off, rfl, hbB, hc⟩ := hrow0 (by omega)
      obtain ⟨z, hz1', hz2', hcz⟩ := hc k hlt
      have hck : wr.cell? ⟨b, off + k, none⟩ = some (.int .u8 z) := (hbel.cell (p := ⟨b, off + k, none⟩) hbB).trans hcz
      clear hc hcz hrow0
      by_cases h1 : 0 < len1
      · obtain ⟨b1, off1, rfl, hbB1, hc1⟩ := hrow1 h1
        have hm1 : 0 ≤ (k : Int) % (len1 : Int) := Int.emod_nonneg _ (by omega)
        have hm2 : (k : Int) % (len1 : Int) < (len1 : Int) := Int.emod_lt_of_pos _ (by omega)
        obtain ⟨s, hs, hcs⟩ := hc1 (k % len1) (Nat.mod_lt _ h1)
        have hcs' : wr.cell? ⟨b1, off1 + k % len1, none⟩ = some (.string s) := (hbel.cell (p := ⟨b1, _, none⟩) hbB1).trans hcs
        clear hc1 hcs hrow1
        go_wp2_with (first | (go_at_call 4; refine (kind_any _ _ (by omega) (by omega)).mono ?_; rintro e w' ⟨kd, rfl, rfl⟩) | (at_builtin; refine wpList_append_fits _ rfl (.tmp 44) (.tmp 57) 25 rfl w.heap.size 30 i0 5 Ybaf.underlying25 hi hz1 w.heap.size k (len0 + 1) _ rfl (hown.alloc _) ⟨_, 0, none⟩ 1 1 [_, _, _, _, _] rfl rfl (tok_news _ _ _ _ _ _ _) ?c2 (by omega) ?_))
        case c2 => intro u hu; simp at hu; rcases hu with rfl | rfl | rfl | rfl | rfl <;> rfl
        · intro w3 ho3 hg3
          have hb3 : Below w.heap.size w w3 := (hbel.alloc hbel.size _).grown hg3 (by have := hbel.size; simp; omega) (by simp)
          rw [toksL_snoc] at ho3
          have HO : Hid (w3.ownsRow w.heap.size 30 5 (.slice (some ⟨w.heap.size, 0, none⟩) (k + 1) (len0 + 1)) (k + 1) _) := ho3
          clear ho3 hg3 hown hck
          go_wp2
          go_roundw
          case rel => exact ⟨k + 1, _, by omega, by rw [List.length_append, HT.out]; rfl, by go_num, rfl, HO.out, hb3⟩
          case measure => simp [intOf]; omega
      · clear hrow1
        have h1' : len1 = 0 := by omega
        subst h1'
        go_wp2_with (first | (go_at_call 4; refine (kind_any _ _ (by omega) (by omega)).mono ?_; rintro e w' ⟨kd, rfl, rfl⟩) | (at_builtin; refine wpList_append_fits _ rfl (.tmp 44) (.tmp 57) 25 rfl w.heap.size 30 i0 5 Ybaf.underlying25 hi hz1 w.heap.size k (len0 + 1) _ rfl (hown.alloc _) ⟨_, 0, none⟩ 1 1 [_, _, _, _, _] rfl rfl (tok_news _ _ _ _ _ _ _) ?c3 (by omega) ?_))
        case c3 => intro u hu; simp at hu; rcases hu with rfl | rfl | rfl | rfl | rfl <;> rfl
        · intro w3 ho3 hg3
          have hb3 : Below w.heap.size w w3 := (hbel.alloc hbel.size _).grown hg3 (by have := hbel.size; simp; omega) (by simp)
          rw [toksL_snoc] at ho3
          have HO : Hid (w3.ownsRow w.heap.size 30 5 (.slice (some ⟨w.heap.size, 0, none⟩) (k + 1) (len0 + 1)) (k + 1) _) := ho3
          clear ho3 hg3 hown hck
          go_wp2
          go_roundw
          case rel => exact ⟨k + 1, _, by omega, by rw [List.length_append, HT.out]; rfl, by go_num, rfl, HO.out, hb3⟩
          case measure => simp [intOf]; omega
    · obtain rfl : k = len0 := by omega
      clear hrow0 hrow1
      obtain ⟨nx, hnx, hnk⟩ : ∃ nx : Nat, start % ((k : Int) + 1) = (nx : Int) ∧ nx < k + 1 := by
        have hn0 : 0 ≤ start % ((k : Int) + 1) := Int.emod_nonneg _ (by omega)
        have hn1 : start % ((k : Int) + 1) < (k : Int) + 1 := Int.emod_lt_of_pos _ (by omega)
        exact ⟨(start % ((k : Int) + 1)).toNat, by omega, by omega⟩
      go_wp2_with (first | (at_builtin; refine wpList_append_fits _ rfl (.tmp 59) (.tmp 64) 25 rfl w.heap.size 30 i0 5 Ybaf.underlying25 hi hz1 w.heap.size k (k + 1) _ rfl (hown.alloc _) ⟨_, 0, none⟩ 1 1 [_, _, _, _, _] rfl rfl (tok_news _ _ _ _ _ _ _) ?c4 (by omega) ?_))
      case c4 => intro u hu; simp at hu; rcases hu with rfl | rfl | rfl | rfl | rfl <;> rfl
      intro w3 ho3 hg3
      have hb3 : Below w.heap.size w w3 := (hbel.alloc hbel.size _).grown hg3 (by have := hbel.size; simp; omega) (by simp)
      rw [toksL_snoc] at ho3
      clear hown hg3 hbel
      obtain ⟨kd, s, v, p, q0, q1, q2, q3, q4⟩ := owns_tok ho3 (i := nx) (by rw [List.length_append, HT.out]; exact hnk)
      have hlt3 : w.heap.size < w3.heap.size := World.block_lt_of_cell? _ _ q0
      have hF3 : F.answers w3.tape := by rw [hb3.tape]; exact hF
      clear ho3 hF
      cases hk2 : (kd.toList == [110, 117, 109, 98, 101, 114])
      · cases hke : (kd.toList == [101, 110, 100, 32, 111, 102, 32, 115, 116, 97, 116, 101, 109, 101, 110, 116])
        · go_wp2_with fail
          refine (number_other F w3.heap.size w.heap.size (k + 1) (k + 1) nx kd s v p none _ ?_ ?_ ?_ ?_ hnk (by omega) hke hk2 ?_ ?_ ?_ ?_ ?_).mono ?_
          · exact hF3
          · simp
          · simp
          · simp
          · go_simp
          · go_simp
          · go_simp
          · go_simp
          · go_simp
          rintro e w4 ⟨x, hx, rfl, hcx, hb4⟩
          have r1 : w4.cell? ⟨w3.heap.size, 1, none⟩ = some (.int .i64 (nx + 1)) := (hb4.cell (p := ⟨w3.heap.size, 1, none⟩) (by simp; omega)).trans (by go_simp)
          have t0 : w4.cell? ⟨w3.heap.size + 1, 0, none⟩ = some (.string kd) := (hb4.cell (p := ⟨w3.heap.size + 1, 0, none⟩) (by simp)).trans (by go_simp)
          have t1 : w4.cell? ⟨w3.heap.size + 1, 1, none⟩ = some (.string s) := (hb4.cell (p := ⟨w3.heap.size + 1, 1, none⟩) (by simp)).trans (by go_simp)
          have t3 : w4.cell? ⟨w3.heap.size + 1, 3, none⟩ = some (.int .i64 p) := (hb4.cell (p := ⟨w3.heap.size + 1, 3, none⟩) (by simp)).trans (by go_simp)
          have hb5 : Below w.heap.size w w4 := ((((hb3.alloc (by omega) _).alloc (by simp; omega) _).setCell (p := ⟨w3.heap.size, 1, none⟩) (by simp; omega) _).trans (hb4.mono (by simp; omega)))
          clear hb4 hb3 q0 q1 q2 q3 q4 hF3
          go_wp2
          go_quiet (fail)
          go_wp2
          go_ret
          exact ⟨rfl, below_drewN hb5 _⟩
        · go_wp2_with fail
          refine (number_end F w3.heap.size w.heap.size (k + 1) (k + 1) nx kd s v p none _ ?_ ?_ ?_ hnk hke hk2 ?_ ?_ ?_ ?_ ?_).mono ?_
          · exact hF3
          · simp
          · simp
          · go_simp
          · go_simp
          · go_simp
          · go_simp
          · go_simp
          rintro e w4 ⟨x, hx, rfl, hcx, hb4⟩
          have r1 : w4.cell? ⟨w3.heap.size, 1, none⟩ = some (.int .i64 nx) := (hb4.cell (p := ⟨w3.heap.size, 1, none⟩) (by simp; omega)).trans (by go_simp)
          have t0 : w4.cell? ⟨w3.heap.size + 1, 0, none⟩ = some (.string kd) := (hb4.cell (p := ⟨w3.heap.size + 1, 0, none⟩) (by simp)).trans (by go_simp)
          have t1 : w4.cell? ⟨w3.heap.size + 1, 1, none⟩ = some (.string s) := (hb4.cell (p := ⟨w3.heap.size + 1, 1, none⟩) (by simp)).trans (by go_simp)
          have t3 : w4.cell? ⟨w3.heap.size + 1, 3, none⟩ = some (.int .i64 p) := (hb4.cell (p := ⟨w3.heap.size + 1, 3, none⟩) (by simp)).trans (by go_simp)
          have hb5 : Below w.heap.size w w4 := (((hb3.alloc (by omega) _).alloc (by simp; omega) _).trans (hb4.mono (by simp; omega)))
          clear hb4 hb3 q0 q1 q2 q3 q4 hF3
          go_wp2
          go_quiet (fail)
          go_wp2
          go_ret
          exact ⟨rfl, below_drewN hb5 _⟩
      · have hke : (kd.toList == [101, 110, 100, 32, 111, 102, 32, 115, 116, 97, 116, 101, 109, 101, 110, 116]) = false := by
          rw [beq_iff_eq.1 hk2]; decide
        go_wp2_with fail
        refine (number_num w3.heap.size w.heap.size (k + 1) (k + 1) nx kd s v p none _ ?_ ?_ ?_ hnk (by omega) hke hk2 ?_ ?_ ?_ ?_ ?_).mono ?_
        · simp
        · simp
        · simp
        · go_simp
        · go_simp
        · go_simp
        · go_simp
        · go_simp
        rintro e w4 ⟨rfl, hb4⟩
        have r1 : w4.cell? ⟨w3.heap.size, 1, none⟩ = some (.int .i64 (nx + 1)) := (hb4.cell (p := ⟨w3.heap.size, 1, none⟩) (by simp; omega)).trans (by go_simp)
        have t0 : w4.cell? ⟨w3.heap.size + 1, 0, none⟩ = some (.string kd) := (hb4.cell (p := ⟨w3.heap.size + 1, 0, none⟩) (by simp)).trans (by go_simp)
        have t1 : w4.cell? ⟨w3.heap.size + 1, 1, none⟩ = some (.string s) := (hb4.cell (p := ⟨w3.heap.size + 1, 1, none⟩) (by simp)).trans (by go_simp)
        have t3 : w4.cell? ⟨w3.heap.size + 1, 3, none⟩ = some (.int .i64 p) := (hb4.cell (p := ⟨w3.heap.size + 1, 3, none⟩) (by simp)).trans (by go_simp)
        have hb5 : Below w.heap.size w w4 := ((((hb3.alloc (by omega) _).alloc (by simp; omega) _).setCell (p := ⟨w3.heap.size, 1, none⟩) (by simp; omega) _).trans (hb4.mono (by simp; omega)))
        clear hb4 hb3 q0 q1 q2 q3 q4 hF3
        go_wp2
        go_ret
        exact ⟨rfl, hb5⟩

set_option maxHeartbeats 400000 in
theorem law_long (a0 a1 : Option Addr) (len0 cap0 len1 cap1 : Nat) (pos start : Int) (w : World) (hl : 1024 < len0) (hm : len0 ≤ 140737488355328) :
    Calls Ybaf.prog 3 #[.slice a0 len0 cap0, .slice a1 len1 cap1, .int .i64 pos, .int .u64 start] w fun e w' => e = .returned (.bool true) ∧ Below w.heap.size w w' := by
  go_enter Ybaf.func3, Ybaf.ntmps3
  go_wp2
  go_ret
  exact ⟨rfl, Below.refl _ _⟩

end Go.Proofs.YbulkboaoFmt
