/-
  The plain law of 'LawS3238CBuilt' and its walk.
-/
import Derived.Test.YbulkboaoNames
import Derived.Lib.AppendStr
import Derived.Laws.BytesArg
namespace Go.Proofs.Ybulkboao
open Go.RowKit

theorem Yba.info5 : (Yba.prog.info? 5).map (fun i => (i.zero, i.size, i.bytes)) = some (some (.int .u8 0), 1, 1) := by kernel_rfl

/-! ### The plain law -/
def lettersL : List UInt8 := [65, 66, 67, 68, 69, 70, 71, 72, 73, 74, 75, 76, 77, 78, 79, 80, 81, 82, 83, 84, 85, 86, 87, 88, 89, 90, 97, 98, 99, 100, 101, 102, 103, 104, 105, 106, 107, 108, 109, 110, 111, 112, 113, 114, 115, 116, 117, 118, 119, 120, 121, 122]
def charsL : List UInt8 := [65, 66, 67, 68, 69, 70, 71, 72, 73, 74, 75, 76, 77, 78, 79, 80, 81, 82, 83, 84, 85, 86, 87, 88, 89, 90, 97, 98, 99, 100, 101, 102, 103, 104, 105, 106, 107, 108, 109, 110, 111, 112, 113, 114, 115, 116, 117, 118, 119, 120, 121, 122, 48, 49, 50, 51, 52, 53, 54, 55, 56, 57, 95]
def stopsL : List UInt8 := [32, 58, 59, 45, 46, 33, 64, 91, 96, 123, 47, 126, 0, 128, 255, 9]
def lt (z : Int) : Int := ((lettersL.getD (z % 52).toNat 0).toNat : Int)
def ch (z : Int) : Int := ((charsL.getD (z % 63).toNat 0).toNat : Int)
def st (z : Int) : Int := ((stopsL.getD (z % 16).toNat 0).toNat : Int)

theorem nb_lt (z : Int) : nb (lt z) true = true := by
  have hall : ∀ m : Fin 52, nb (((lettersL.getD m.val 0).toNat : Nat) : Int) true = true := by decide +kernel
  exact hall ⟨(z % 52).toNat, by omega⟩
theorem nb_ch (z : Int) : nb (ch z) false = true := by
  have hall : ∀ m : Fin 63, nb (((charsL.getD m.val 0).toNat : Nat) : Int) false = true := by decide +kernel
  exact hall ⟨(z % 63).toNat, by omega⟩
theorem nb_st (z : Int) : nb (st z) false = false := by
  have hall : ∀ m : Fin 16, nb (((stopsL.getD m.val 0).toNat : Nat) : Int) false = false := by decide +kernel
  exact hall ⟨(z % 16).toNat, by omega⟩

theorem byte_back (b : UInt8) : UInt8.ofNat ((b.toNat : Int)).toNat = b := by simp

theorem ba_get (s : ByteArray) (i : Nat) (h : i < s.size) : s[i] = s.data.toList.getD i 0 := by
  have h' : i < s.data.toList.length := by simpa using h
  rw [List.getD_eq_getElem?_getD, List.getElem?_eq_getElem h']; rfl

/-- The bytes that the law builds, as numbers. -/
def builtL (a0 : Int) (rs : List Int) (a2 : Int) (tl : List UInt8) : List Int :=
  lt a0 :: rs.map ch ++ [st a2] ++ tl.map fun b => ((b.toNat : Nat) : Int)

theorem nl_rest (a2 : Int) (tl : List Int) : ∀ rs : List Int, nl false ((rs.map ch ++ [st a2] ++ tl).map fun n => UInt8.ofNat n.toNat) = rs.length
  | [] => by
    have h : UInt8.ofNat (st a2).toNat = stopsL.getD (a2 % 16).toNat 0 := byte_back _
    have hn : nb ((stopsL.getD (a2 % 16).toNat 0).toNat : Int) false = false := nb_st a2
    simp only [List.map_nil, List.nil_append, List.cons_append, List.map_cons, nl, h, hn, List.length_nil]
    rfl
  | r :: rs => by
    have h : UInt8.ofNat (ch r).toNat = charsL.getD (r % 63).toNat 0 := byte_back _
    have hn : nb ((charsL.getD (r % 63).toNat 0).toNat : Int) false = true := nb_ch r
    have ih := nl_rest a2 tl rs
    simp only [List.map_cons, List.cons_append, nl, h, hn, if_true, List.length_cons]
    rw [ih]

theorem nl_built (a0 : Int) (rs : List Int) (a2 : Int) (tl : List UInt8) :
    nl true ((builtL a0 rs a2 tl).map fun n => UInt8.ofNat n.toNat) = 1 + rs.length := by
  have h : UInt8.ofNat (lt a0).toNat = lettersL.getD (a0 % 52).toNat 0 := byte_back _
  have hn : nb ((lettersL.getD (a0 % 52).toNat 0).toNat : Int) true = true := nb_lt a0
  have hr := nl_rest a2 (tl.map fun b => ((b.toNat : Nat) : Int)) rs
  unfold builtL
  simp only [List.cons_append, List.map_cons, nl, h, hn, if_true]
  rw [hr]
  omega

/-! ### The walk -/
theorem one_news (w : World) (e : TypeId) (x y : Value) (h : x = y) : ∀ j u, [y][j]? = some u → (w.alloc (.cells #[x] e)).cell? ((⟨w.heap.size, 0, none⟩ : Addr).add j) = some u := by
  subst h
  intro j u hj
  match j, hj with
  | 0, hj => simp at hj; subst hj; simp [Addr.add]

/-- The row behind k rounds. -/
def rowTo (a0 : Int) (zs : List Int) (k : Nat) : List Value := (lt a0 :: (zs.take k).map ch).map (Value.int .u8)
theorem rowTo_zero (a0 : Int) (zs : List Int) : rowTo a0 zs 0 = [.int .u8 (lt a0)] := by simp [rowTo]
theorem rowTo_succ (a0 : Int) (zs : List Int) (k : Nat) (z : Int) (h : k < zs.length) (hz : zs.getD k 0 = z) : rowTo a0 zs k ++ [.int .u8 (ch z)] = rowTo a0 zs (k + 1) := by
  have e : zs[k] = z := by rw [← hz, List.getD_eq_getElem?_getD, List.getElem?_eq_getElem h]; rfl
  simp only [rowTo]
  rw [List.take_succ_eq_append_getElem h, e]
  simp
theorem rowTo_end (a0 : Int) (zs : List Int) (k : Nat) (a2 : Int) (s : ByteArray) :
    rowTo a0 zs k ++ (.int .u8 (st a2) :: Lib.strCells s) = (builtL a0 (zs.take k) a2 s.data.toList).map (Value.int .u8) := by
  simp [rowTo, builtL, Lib.strCells, Function.comp_def]

theorem owns_bytes {w : World} {base : Nat} {v : Value} {n : Nat} {xs : List Int} (h : w.ownsRow base 5 1 v n (xs.map (Value.int .u8))) (hn : 0 < n) :
    ∃ g cap, v = .slice (some ⟨g, 0, none⟩) n cap ∧ xs.length = n ∧ ∀ i, i < n → w.cell? ⟨g, 0 + i, none⟩ = some (.int .u8 (xs.getD i 0)) := by
  have hlen : xs.length = n := by simpa using h.1
  rcases h.2 with ⟨_, rfl⟩ | ⟨g, cap, cur, rfl, _⟩
  · omega
  · refine ⟨g, cap, rfl, hlen, fun i hi => ?_⟩
    have := h.cells (g := g) rfl i (.int .u8 (xs.getD i 0)) (by
      rw [List.getElem?_map, List.getD_eq_getElem?_getD, List.getElem?_eq_getElem (by omega)]; rfl)
    rwa [show (⟨g, 0, none⟩ : Addr).add i = ⟨g, 0 + i, none⟩ from by unfold Addr.add; split <;> simp_all] at this

theorem builtL_length (a0 : Int) (rs : List Int) (a2 : Int) (tl : List UInt8) : (builtL a0 rs a2 tl).length = 1 + rs.length + 1 + tl.length := by
  simp [builtL]; omega

set_option maxHeartbeats 1000000 in
theorem built_any (a0 : Int) (a1 : Option Addr) (len cap : Nat) (zs : List Int) (a2 : Int) (a3 : ByteArray) (w : World)
    (h0 : 0 ≤ a0) (h0' : a0 ≤ 255) (h2 : 0 ≤ a2) (h2' : a2 ≤ 255) (hl : len ≤ 4096) (hs : a3.size ≤ 4096) (hzl : len ≤ zs.length)
    (hrow : 0 < len → ∃ b off, a1 = some ⟨b, off, none⟩ ∧ b < w.heap.size ∧ ∀ i, i < len → w.cell? ⟨b, off + i, none⟩ = some (.int .u8 (zs.getD i 0))) (hwf : ∀ i, 0 ≤ zs.getD i 0 ∧ zs.getD i 0 ≤ 255) :
    Calls Yba.prog 4 #[.int .u8 a0, .slice a1 len cap, .int .u8 a2, .string a3] w fun e w' => e = .returned (.bool true) ∧ Below w.heap.size w w' := by
  obtain ⟨i0, hi, hz0, hz1, hz2⟩ := info_parts Yba.info5
  go_enter Yba.func4, Yba.ntmps4
  go_wp2_with (first | (at_make; refine wpList_make_own _ rfl _ _ 24 rfl w.heap.size 5 i0 (.int .u8 0) 1 Yba.underlying24 hi hz0 hz1 .i64 .i64 _ (len + 2 + a3.size) rfl rfl (by simp) (by rw [hz2]; omega) (by unfold maxLen; omega) (Nat.le_refl _) ?_; intro w1 ho1 hg1) | (at_builtin; refine wpList_append_fits _ rfl (.tmp 27) (.tmp 32) 24 rfl w.heap.size 5 i0 1 Yba.underlying24 hi hz1 w.heap.size 0 (len + 2 + a3.size) [] rfl (ho1.alloc _) ⟨w1.heap.size, 0, none⟩ 1 1 [.int .u8 (lt a0)] rfl rfl ?c1 ?c2 (by omega) ?_))
  case c1 => exact one_news w1 5 _ _ (by rw [ba_get]; rfl)
  case c2 => intro u hu; simp at hu; subst hu; rfl
  · intro w2 ho2 hg2
    have hb2 : Below w.heap.size w w2 := (((Below.refl _ _).grown hg1 (Nat.le_refl _) (by simp)).alloc hg1.size _).grown hg2 (by have := hg1.size; simp; omega) (by simp)
    clear hg2 hg1 ho1
    go_wp2
    go_loopw [9, 36] (fun v i wr => ∃ k : Nat, k ≤ len ∧ i = .int .i64 k ∧ v = .slice (some ⟨w.heap.size, 0, none⟩) (1 + k) (len + 2 + a3.size) ∧
        wr.ownsRow w.heap.size 5 1 v (1 + k) (rowTo a0 zs k) ∧ Below w.heap.size w wr) (fun _ i _ => len - (intOf i).toNat)
    case atStart => exact ⟨0, Nat.zero_le _, rfl, rfl, by rw [rowTo_zero]; exact ho2, hb2⟩
    case round =>
      obtain ⟨k, hk, rfl, rfl, hown, hbel⟩ := hrel
      clear ho2 hb2
      by_cases hlt : k < len
      · obtain ⟨b, off, rfl, hbB, hc⟩ := hrow (by omega)
        have hck : wr.cell? ⟨b, off + k, none⟩ = some (.int .u8 (zs.getD k 0)) := (hbel.cell (p := ⟨b, off + k, none⟩) hbB).trans (hc k hlt)
        have hwk := hwf k
        generalize hz : zs.getD k 0 = z at hck hwk
        have HZ : Hid (_ = _) := hz
        obtain ⟨hwk1, hwk2⟩ := hwk
        clear hz hc hwf hrow
        go_wp2_with (first | (at_builtin; refine wpList_append_fits _ rfl (.tmp 40) (.tmp 45) 24 rfl w.heap.size 5 i0 1 Yba.underlying24 hi hz1 w.heap.size (1 + k) (len + 2 + a3.size) _ rfl (hown.alloc _) ⟨wr.heap.size, 0, none⟩ 1 1 [.int .u8 (ch z)] rfl rfl ?c3 ?c4 (by omega) ?_))
        case c3 => exact one_news wr 5 _ _ (by rw [ba_get]; rfl)
        case c4 => intro u hu; simp at hu; subst hu; rfl
        · intro w3 ho3 hg3
          have hb3 : Below w.heap.size w w3 := (hbel.alloc hbel.size _).grown hg3 (by have := hbel.size; simp; omega) (by simp)
          have HO : Hid (w3.ownsRow w.heap.size 5 1 (.slice (some ⟨w.heap.size, 0, none⟩) (1 + (k + 1)) (len + 2 + a3.size)) (1 + (k + 1)) (rowTo a0 zs (k + 1))) := by
            rw [rowTo_succ a0 zs k z (by omega) HZ.out] at ho3
            exact ho3
          clear ho3 hg3 hown hck
          go_wp2
          go_roundw
          case rel => exact ⟨k + 1, by omega, by go_num, by rw [show 1 + k + 1 = 1 + (k + 1) from by omega], HO.out, hb3⟩
          case measure => simp [intOf]; omega
      · obtain rfl : k = len := by omega
        clear hrow
        go_wp2_with (first | (at_builtin; refine wpList_append_fits _ rfl (.tmp 48) (.tmp 53) 24 rfl w.heap.size 5 i0 1 Yba.underlying24 hi hz1 w.heap.size (1 + k) (k + 2 + a3.size) _ rfl (hown.alloc _) ⟨wr.heap.size, 0, none⟩ 1 1 [.int .u8 (st a2)] rfl rfl ?c5 ?c6 (by omega) ?_))
        case c5 => exact one_news wr 5 _ _ (by rw [ba_get]; rfl)
        case c6 => intro u hu; simp at hu; subst hu; rfl
        · intro w3 ho3 hg3
          have hb3 : Below w.heap.size w w3 := (hbel.alloc hbel.size _).grown hg3 (by have := hbel.size; simp; omega) (by simp)
          clear hg3 hown hbel
          go_wp2_with (first | (at_builtin; refine Lib.wpList_append_own_string _ rfl (.tmp 55) (.tmp 56) 24 9 rfl w.heap.size 5 i0 Yba.underlying24 Yba.underlying9 hi hz0 hz1 hz2 _ (1 + k + 1) _ rfl ho3 a3 rfl (by unfold maxLen; omega) (by omega) hb3.size ?_))
          intro v' w4 ho4 hg4 _
          have hb4 : Below w.heap.size w w4 := hb3.grown hg4 hb3.size (by simp [Value.ownBlock])
          rw [rowTo_end] at ho4
          obtain ⟨g, cap', hv, hxl, hxc⟩ := owns_bytes ho4 (by omega)
          have hcv := run_convert_bytes_arg (P := Yba.prog) w4 24 5 Yba.underlying24 Yba.underlying5 g 0 _ cap' _ hxl hxc 9 Yba.underlying9
          have HN : Hid (nl true (strOfNums (builtL a0 (zs.take k) a2 a3.data.toList)).data.toList = 1 + k) := by
            rw [strOfNums_data]
            have := nl_built a0 (zs.take k) a2 a3.data.toList
            rw [List.length_take_of_le hzl] at this
            exact this
          have hsz : (strOfNums (builtL a0 (zs.take k) a2 a3.data.toList)).size ≤ maxLen := by
            rw [strOfNums_size, hxl]; unfold maxLen; omega
          clear hxl hxc ho4
          generalize strOfNums (builtL a0 (zs.take k) a2 a3.data.toList) = sx at *
          rw [hv]
          clear hg4 ho3 hb3 hv
          go_wp2_with (go_at_call 5; refine (nameLen_any _ _ hsz).mono ?_; rintro e w' ⟨rfl, rfl⟩)
          go_ret
          exact ⟨ret_bool (by rw [HN.out]; simp), hb4⟩

set_option maxHeartbeats 400000 in
theorem built_long (a0 : Int) (a1 : Option Addr) (len cap : Nat) (a2 : Int) (a3 : ByteArray) (w : World)
    (hm : a3.size ≤ maxLen) (hl : 4096 < len ∨ 4096 < a3.size) (hlm : len ≤ maxLen) :
    Calls Yba.prog 4 #[.int .u8 a0, .slice a1 len cap, .int .u8 a2, .string a3] w fun e w' => e = .returned (.bool true) ∧ Below w.heap.size w w' := by
  unfold maxLen at hm hlm
  by_cases h1 : 4096 < len
  · clear hl
    go_enter Yba.func4, Yba.ntmps4
    go_wp2
    go_ret
    exact ⟨rfl, Below.refl _ _⟩
  · have h2 : 4096 < a3.size := by omega
    clear hl
    go_enter Yba.func4, Yba.ntmps4
    go_wp2
    go_ret
    exact ⟨rfl, Below.refl _ _⟩

end Go.Proofs.Ybulkboao
