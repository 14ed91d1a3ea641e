/-
  The contracts of 'isNameByte', 'zzs3238cletter', 'sessionNameLength' and 'zzs3238cmodel', and the plain laws on names.
-/
import Derived.Test.YbulkboaoRows
import Derived.WalkKit
import Derived.WalkSpells
import Derived.WalkLawsBesides
namespace Go.Proofs.Ybulkboao
open Go.RowKit

/-- A letter, as a number. -/
def letB (n : Int) : Bool := decide (65 ≤ n ∧ n ≤ 90 ∨ 97 ≤ n ∧ n ≤ 122)

/-- May the byte 'n' stand in a name, at its start where 'f' is set? -/
def nb (n : Int) (f : Bool) : Bool :=
  letB n || (!f && decide (48 ≤ n ∧ n ≤ 57 ∨ n = 95))

theorem ret_bool {a b : Bool} (h : a = b) : Ending.returned (.bool a) = .returned (.bool b) := by rw [h]
theorem ret_int {k : IntKind} {a b : Int} (h : a = b) : Ending.returned (.int k a) = .returned (.int k b) := by rw [h]

set_option maxHeartbeats 400000 in
theorem isName_any (n : Int) (f : Bool) (w : World) (h0 : 0 ≤ n) (h1 : n ≤ 255) :
    Calls Yba.prog 7 #[.int .u8 n, .bool f] w fun e w' => e = .returned (.bool (nb n f)) ∧ w' = w := by
  cases f
  all_goals
    go_enter Yba.func7, Yba.ntmps7
    go_wp2
    all_goals
      go_ret
      refine ⟨ret_bool ?_, rfl⟩
      rw [Bool.eq_iff_iff]
      simp [nb, letB]
      try omega

/-- 'b | 0x20' lies in 'a' .. 'z' just where b is a letter. -/
theorem let_or (n : Nat) (h : n < 256) : (decide (97 ≤ bits .or .u8 (n : Int) 32) && decide (bits .or .u8 (n : Int) 32 ≤ 122)) = letB n := by
  have hall : ∀ m : Fin 256, (decide (97 ≤ bits .or .u8 (m.val : Int) 32) && decide (bits .or .u8 (m.val : Int) 32 ≤ 122)) = letB (m.val : Int) := by decide +kernel
  exact hall ⟨n, h⟩

set_option maxHeartbeats 400000 in
theorem letter_any (n : Int) (w : World) (h0 : 0 ≤ n) (h1 : n ≤ 255) :
    Calls Yba.prog 8 #[.int .u8 n] w fun e w' => e = .returned (.bool (letB n)) ∧ w' = w := by
  obtain ⟨m, rfl⟩ := Int.eq_ofNat_of_zero_le h0
  have hl := let_or m (by omega)
  have HL : Hid (_ = _) := hl
  clear hl
  go_enter Yba.func8, Yba.ntmps8
  go_wp2
  all_goals
    go_ret
    refine ⟨ret_bool ?_, rfl⟩
    rw [← HL.out, Bool.eq_iff_iff]
    simp [*]
    try omega

/-- The length of the name that the bytes open with; 'f': at the name's start. -/
def nl : Bool → List UInt8 → Nat
  | _, [] => 0
  | f, b :: t => if nb b.toNat f then nl false t + 1 else 0

theorem nl_le (f : Bool) (l : List UInt8) : nl f l ≤ l.length := by
  induction l generalizing f with
  | nil => simp [nl]
  | cons b t ih => have := ih false; simp only [nl, List.length_cons]; split <;> omega

theorem nl_no {f : Bool} {l : List UInt8} {k : Nat} (h : k < l.length) (hn : nb (l[k].toNat : Int) f = false) : nl f (l.drop k) = 0 := by
  rw [List.drop_eq_getElem_cons h]; simp [nl, hn]

theorem nl_yes {f : Bool} {l : List UInt8} {k : Nat} (h : k < l.length) (hn : nb (l[k].toNat : Int) f = true) : nl f (l.drop k) = 1 + nl false (l.drop (k + 1)) := by
  rw [List.drop_eq_getElem_cons h]; simp [nl, hn]; omega

theorem nl_end (f : Bool) {l : List UInt8} {k : Nat} (h : l.length ≤ k) : nl f (l.drop k) = 0 := by
  rw [List.drop_eq_nil_of_le h]; rfl

set_option maxHeartbeats 400000 in
theorem nameLen_any (s : ByteArray) (w : World) (hs : s.size ≤ maxLen) :
    Calls Yba.prog 5 #[.string s] w fun e w' => e = .returned (.int .i64 (nl true s.data.toList)) ∧ w' = w := by
  unfold maxLen at hs
  have hsz : s.data.toList.length = s.size := by simp
  have HZ : Hid (_ = _) := hsz
  clear hsz
  go_enter Yba.func5, Yba.ntmps5
  go_wp2
  go_loop [3] (fun i => ∃ k : Nat, k ≤ s.size ∧ i = .int .i64 k ∧ nl true s.data.toList = k + nl ((k : Int) == 0) (s.data.toList.drop k)) (fun i => s.size - (intOf i).toNat)
  case atStart => exact ⟨0, Nat.zero_le _, rfl, by simp⟩
  case round =>
    obtain ⟨k, hk, rfl, hr⟩ := hrel
    have HR : Hid (_ = _) := hr
    clear hr
    by_cases hlt : k < s.size
    · have hb : s[k].toNat ≤ 255 := by have := s[k].toNat_lt; omega
      cases hn : nb (s[k].toNat : Int) ((k : Int) == 0)
      · go_wp2_with (go_at_call 7; refine (isName_any _ _ _ (by omega) (by omega)).mono ?_; rintro e w' ⟨rfl, rfl⟩)
        go_ret
        exact ⟨ret_int (by rw [HR.out, nl_no (by rw [HZ.out]; exact hlt) hn]; simp), rfl⟩
      · go_wp2_with (go_at_call 7; refine (isName_any _ _ _ (by omega) (by omega)).mono ?_; rintro e w' ⟨rfl, rfl⟩)
        go_round
        case rel => exact ⟨k + 1, by omega, by go_num, by rw [HR.out, nl_yes (by rw [HZ.out]; exact hlt) hn, show (((k + 1 : Nat) : Int) == 0) = false from by rw [beq_eq_false_iff_ne]; omega]; omega⟩
        case measure => simp [intOf]; omega
    · go_wp2
      go_ret
      exact ⟨ret_int (by rw [HR.out, nl_end _ (by rw [HZ.out]; omega)]; simp), rfl⟩

set_option maxHeartbeats 400000 in
theorem model_any (s : ByteArray) (w : World) (hs : s.size ≤ maxLen) :
    Calls Yba.prog 6 #[.string s] w fun e w' => e = .returned (.int .i64 (nl true s.data.toList)) ∧ w' = w := by
  unfold maxLen at hs
  have hsz : s.data.toList.length = s.size := by simp
  have HZ : Hid (_ = _) := hsz
  clear hsz
  by_cases h0 : s.size = 0
  · have h00 : ((s.size : Int) == 0) = true := by simp [h0]
    have HN : Hid (nl true s.data.toList = 0) := by have := nl_le true s.data.toList; rw [HZ.out] at this; unfold Hid; omega
    go_enter Yba.func6, Yba.ntmps6
    go_wp2
    go_ret
    exact ⟨ret_int (by rw [HN.out]; rfl), rfl⟩
  have h1 : 0 < s.size := by omega
  have h00 : ((s.size : Int) == 0) = false := by rw [beq_eq_false_iff_ne]; omega
  clear h0
  have hb0 : s[0].toNat ≤ 255 := by have := s[0].toNat_lt; omega
  cases hn : letB (s[0].toNat : Int)
  · have HN : Hid (nl true s.data.toList = 0) := by
      have := nl_no (f := true) (l := s.data.toList) (k := 0) (by rw [HZ.out]; exact h1) (by show nb (s[0].toNat : Int) true = false; simp [nb, hn])
      exact this
    go_enter Yba.func6, Yba.ntmps6
    go_wp2_with (go_at_call 8; refine (letter_any _ _ (by omega) (by omega)).mono ?_; rintro e w' ⟨rfl, rfl⟩)
    go_ret
    exact ⟨ret_int (by rw [HN.out]; rfl), rfl⟩
  · have HN : Hid (nl true s.data.toList = 1 + nl false (s.data.toList.drop 1)) := by
      have := nl_yes (f := true) (l := s.data.toList) (k := 0) (by rw [HZ.out]; exact h1) (by show nb (s[0].toNat : Int) true = true; simp [nb, hn])
      exact this
    go_enter Yba.func6, Yba.ntmps6
    go_wp2_with (go_at_call 8; refine (letter_any _ _ (by omega) (by omega)).mono ?_; rintro e w' ⟨rfl, rfl⟩)
    go_loop [3, 4] (fun i c => ∃ k : Nat, 1 ≤ k ∧ k ≤ s.size ∧ i = .int .i64 k ∧ nl true s.data.toList = k + nl false (s.data.toList.drop k)) (fun i c => s.size - (intOf i).toNat)
    case atStart => exact ⟨1, by omega, by omega, rfl, HN.out⟩
    case round =>
      obtain ⟨k, hk1, hk, rfl, hr⟩ := hrel
      have HR : Hid (_ = _) := hr
      clear hr hn hb0
      by_cases hlt : k < s.size
      · have hb : s[k].toNat ≤ 255 := by have := s[k].toNat_lt; omega
        cases hl : letB (s[k].toNat : Int)
        · generalize hc : (s[k].toNat : Int) = c at hl
          have HC : Hid (_ = _) := hc
          clear hc
          have hp : (48 ≤ c ∧ c ≤ 57) ∨ (57 < c ∧ c = 95) ∨ (48 ≤ c ∧ 57 < c ∧ c ≠ 95) ∨ c < 48 := by omega
          rcases hp with ⟨g1, g2⟩ | ⟨g1, g2⟩ | ⟨g1, g2, g3⟩ | g1
          · have hn : nb (s[k].toNat : Int) false = true := by rw [HC.out]; simp [nb]; omega
            have e1 : 48 ≤ (s[k].toNat : Int) := by rw [HC.out]; exact g1
            have e2 : (s[k].toNat : Int) ≤ 57 := by rw [HC.out]; exact g2
            rw [← HC.out] at hl
            go_wp2_with (go_at_call 8; refine (letter_any _ _ (by omega) (by omega)).mono ?_; rintro e w' ⟨rfl, rfl⟩)
            go_round
            case rel => exact ⟨k + 1, by omega, by omega, by go_num, by rw [HR.out, nl_yes (by rw [HZ.out]; exact hlt) hn]; omega⟩
            case measure => simp [intOf]; omega
          · have hn : nb (s[k].toNat : Int) false = true := by rw [HC.out]; simp [nb]; omega
            have e1 : 48 ≤ (s[k].toNat : Int) := by rw [HC.out]; omega
            have e2 : ¬ (s[k].toNat : Int) ≤ 57 := by rw [HC.out]; omega
            have e3 : ((s[k].toNat : Int) == 95) = true := by rw [HC.out, beq_iff_eq]; exact g2
            rw [← HC.out] at hl
            clear g2
            go_wp2_with (go_at_call 8; refine (letter_any _ _ (by omega) (by omega)).mono ?_; rintro e w' ⟨rfl, rfl⟩)
            go_round
            case rel => exact ⟨k + 1, by omega, by omega, by go_num, by rw [HR.out, nl_yes (by rw [HZ.out]; exact hlt) hn]; omega⟩
            case measure => simp [intOf]; omega
          · have hn : nb (s[k].toNat : Int) false = false := by rw [HC.out]; simp [nb, hl]; omega
            have e1 : 48 ≤ (s[k].toNat : Int) := by rw [HC.out]; omega
            have e2 : decide ((s[k].toNat : Int) ≤ 57) = false := by rw [HC.out, decide_eq_false_iff_not]; omega
            have e3 : ((s[k].toNat : Int) == 95) = false := by rw [HC.out, beq_eq_false_iff_ne]; exact g3
            rw [← HC.out] at hl
            clear g3
            go_wp2_with (go_at_call 8; refine (letter_any _ _ (by omega) (by omega)).mono ?_; rintro e w' ⟨rfl, rfl⟩)
            go_ret
            exact ⟨ret_int (by rw [HR.out, nl_no (by rw [HZ.out]; exact hlt) hn]; simp), rfl⟩
          · have hn : nb (s[k].toNat : Int) false = false := by rw [HC.out]; simp [nb, hl]; omega
            have e1 : ¬ 48 ≤ (s[k].toNat : Int) := by rw [HC.out]; omega
            have e3 : ((s[k].toNat : Int) == 95) = false := by rw [HC.out, beq_eq_false_iff_ne]; omega
            rw [← HC.out] at hl
            go_wp2_with (go_at_call 8; refine (letter_any _ _ (by omega) (by omega)).mono ?_; rintro e w' ⟨rfl, rfl⟩)
            go_ret
            exact ⟨ret_int (by rw [HR.out, nl_no (by rw [HZ.out]; exact hlt) hn]; simp), rfl⟩
        · have hn : nb (s[k].toNat : Int) false = true := by simp [nb, hl]
          go_wp2_with (go_at_call 8; refine (letter_any _ _ (by omega) (by omega)).mono ?_; rintro e w' ⟨rfl, rfl⟩)
          go_round
          case rel => exact ⟨k + 1, by omega, by omega, by go_num, by rw [HR.out, nl_yes (by rw [HZ.out]; exact hlt) hn]; omega⟩
          case measure => simp [intOf]; omega
      · go_wp2
        go_ret
        exact ⟨ret_int (by rw [HR.out, nl_end _ (by rw [HZ.out]; omega)]; simp), rfl⟩

end Go.Proofs.Ybulkboao
