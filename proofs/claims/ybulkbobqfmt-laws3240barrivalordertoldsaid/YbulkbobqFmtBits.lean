/-
  Sets of at most eight members as numbers below 256; the weak part of an Orderer; setLog.
-/
import Derived.Test.YbulkbobqFmtMerge
namespace Go.Proofs.YbulkbobqFmt
open Go.RowKit

def orBit (a m : Nat) : Nat := a ||| 2 ^ m
def clrBit (a m : Nat) : Nat := a &&& (255 - 2 ^ m)
def dropLow (a : Nat) : Nat := a &&& (a - 1)
/-- The members of a set, ascending. -/
def bitsOf (x : Nat) : List Nat := (List.range 8).filter (x.testBit ·)

theorem all256 {p : Nat → Bool} (h : (List.range 256).all p = true) (a : Nat) (ha : a < 256) : p a = true := List.all_eq_true.1 h a (List.mem_range.2 ha)

theorem or_eq (a m : Nat) (ha : a < 256) (hm : m < 8) : bits .or .u64 (a : Int) (IntKind.u64.wrap (2 ^ m)) = (orBit a m : Nat) := by
  have h2 : 2 ^ m < 256 := by have := Nat.pow_lt_pow_right (a := 2) (by omega) hm; simpa using this
  have e : IntKind.u64.wrap ((2 : Int) ^ m) = ((2 ^ m : Nat) : Int) := by
    rw [show ((2 : Int) ^ m) = ((2 ^ m : Nat) : Int) from by simp]
    generalize 2 ^ m = t at *
    rw [IntKind.wrap_u64]; omega
  rw [e, bits_or_u64_nat a _ (by omega) (by omega)]; rfl
theorem clr_eq (a m : Nat) (ha : a < 256) (hm : m < 8) : bits .andNot .u64 (a : Int) (IntKind.u64.wrap (2 ^ m)) = (clrBit a m : Nat) := by
  have h := all256 (p := fun a => (List.range 8).all fun m => bits .andNot .u64 (a : Int) (IntKind.u64.wrap (2 ^ m)) == (clrBit a m : Nat)) (by decide +kernel) a ha
  simpa using List.all_eq_true.1 h m (List.mem_range.2 hm)
theorem drop_eq (a : Nat) (ha : a < 256) (h0 : a ≠ 0) : bits .and .u64 (a : Int) ((a : Int) - 1) = (dropLow a : Nat) := by
  rw [show (a : Int) - 1 = ((a - 1 : Nat) : Int) from by omega, bits_and_u64_nat a _ (by omega) (by omega)]; rfl
theorem or_lt (n a m : Nat) (ha : a < 2 ^ n) (hm : m < n) : orBit a m < 2 ^ n := Nat.or_lt_two_pow ha (Nat.pow_lt_pow_right (by omega) hm)
theorem clr_le (a m : Nat) : clrBit a m ≤ a := Nat.and_le_left
theorem drop_le (a : Nat) : dropLow a ≤ a := Nat.and_le_left
theorem drop_lt (a : Nat) (ha : a < 256) (h0 : a ≠ 0) : dropLow a < a := by
  have h := all256 (p := fun a => a == 0 || decide (dropLow a < a)) (by decide +kernel) a ha
  simp at h
  omega
theorem bits_cons (a : Nat) (ha : a < 256) (h0 : a ≠ 0) : bitsOf a = Lib.ctz 64 a :: bitsOf (dropLow a) := by
  have h := all256 (p := fun a => a == 0 || bitsOf a == Lib.ctz 64 a :: bitsOf (dropLow a)) (by decide +kernel) a ha
  simp at h
  exact h.resolve_left h0
theorem ctz_lt (n a : Nat) (hn : n ≤ 8) (ha : a < 2 ^ n) (h0 : a ≠ 0) : Lib.ctz 64 a < n := by
  have h2 : 2 ^ n ≤ 256 := by have := Nat.pow_le_pow_right (n := 2) (by omega) hn; simpa using this
  have h := all256 (p := fun a => a == 0 || (List.range 9).all fun n => decide (2 ^ n ≤ a) || decide (Lib.ctz 64 a < n)) (by decide +kernel) a (by omega)
  simp at h
  have := h.resolve_left h0 n (by omega)
  omega
theorem pow8 (n : Nat) (hn : n ≤ 8) : 2 ^ n ≤ 256 := by have := Nat.pow_le_pow_right (n := 2) (by omega) hn; simpa using this

/-- A row of uint64s. -/
def Urow (w : World) (b n : Nat) : Prop := ∃ cur : Array Value, w.heap[b]? = some (.cells cur 26 (0, 0)) ∧ n ≤ cur.size ∧ ∀ v ∈ cur.toList, isU v
/-- The row of the logs. -/
def Lrow (base N : Nat) (w : World) (b n : Nat) : Prop := ∃ cur : Array Value, w.heap[b]? = some (.cells cur 52 (0, 0)) ∧ n ≤ cur.size ∧ ∀ i, i < n → ∃ v, cur[i]? = some v ∧ LogSl base N w v

section
variable {base N b n : Nat} {S T : List Nat} {w w' : World}
theorem Urow.fr (h : Urow w b n) (hf : Fr base S T w w') (hS : b ∉ S) (hT : 26 ∉ T) : Urow w' b n := by
  obtain ⟨cur, h1, h2, h3⟩ := h
  exact ⟨cur, hf.same h1 hS hT, h2, h3⟩
theorem Urow.cell (h : Urow w b n) (i : Nat) (hi : i < n) : (∃ z : Int, w.cell? ⟨b, i, none⟩ = some (.int .u64 z) ∧ 0 ≤ z ∧ z < 18446744073709551616) ∧ w.frozen? ⟨b, i, none⟩ = false := by
  obtain ⟨cur, h1, h2, h3⟩ := h
  have hi' : i < cur.size := by omega
  obtain ⟨z, hz, hz0, hz1⟩ := h3 cur[i] (by simp)
  refine ⟨⟨z, ?_, hz0, hz1⟩, by simp [World.frozen?, h1]⟩
  simp only [World.cell?, h1]; rw [Array.getElem?_eq_getElem hi', hz]; rfl
theorem Urow.set (h : Urow w b n) (i : Nat) {z : Int} (h0 : 0 ≤ z) (h1 : z < 18446744073709551616) (hb : base ≤ b) :
    Urow (w.setCell ⟨b, i, none⟩ (.int .u64 z)) b n ∧ (LogOK base w → LogOK base (w.setCell ⟨b, i, none⟩ (.int .u64 z))) ∧ Fr base [b] [] w (w.setCell ⟨b, i, none⟩ (.int .u64 z)) := by
  obtain ⟨cur, g1, g2, g3⟩ := h
  refine ⟨⟨cur.setIfInBounds i (.int .u64 z), ?_, by simpa using g2, fun v hv => ?_⟩, fun hl => hl.setCell g1 _ fun e => by simp at e, (Fr.refl _ _ _ _).setCell g1 _ hb (.inl (by simp))⟩
  · rw [setCell_eq_setRow w b i cur 26 (0, 0) _ g1, setRow_heap w b _ _ _ _ g1]
  · rw [Array.toList_setIfInBounds] at hv
    rcases List.mem_or_eq_of_mem_set hv with hv | rfl
    · exact g3 v hv
    · exact isU_int h0 h1
theorem Lrow.fr (h : Lrow base N w b n) (hf : Fr base S T w w') (hS : b ∉ S) (hT : 52 ∉ T) : Lrow base N w' b n := by
  obtain ⟨cur, h1, h2, h3⟩ := h
  refine ⟨cur, hf.same h1 hS hT, h2, fun i hi => ?_⟩
  obtain ⟨v, hv, hs⟩ := h3 i hi
  exact ⟨v, hv, hs.fr hf⟩
theorem Lrow.mono {N' : Nat} (h : Lrow base N w b n) (hN : N ≤ N') : Lrow base N' w b n := by
  obtain ⟨cur, h1, h2, h3⟩ := h
  refine ⟨cur, h1, h2, fun i hi => ?_⟩
  obtain ⟨v, hv, hs⟩ := h3 i hi
  exact ⟨v, hv, hs.mono hN⟩
theorem Lrow.cell (h : Lrow base N w b n) (i : Nat) (hi : i < n) : (∃ v, w.cell? ⟨b, i, none⟩ = some v ∧ LogSl base N w v) ∧ w.frozen? ⟨b, i, none⟩ = false := by
  obtain ⟨cur, h1, h2, h3⟩ := h
  obtain ⟨v, hv, hs⟩ := h3 i hi
  refine ⟨⟨v, ?_, hs⟩, by simp [World.frozen?, h1]⟩
  simp only [World.cell?, h1]; rw [hv]; rfl
theorem Lrow.set (h : Lrow base N w b n) (i : Nat) {v : Value} (hv : LogSl base N w v) (hb : base ≤ b) :
    Lrow base N (w.setCell ⟨b, i, none⟩ v) b n ∧ (LogOK base w → LogOK base (w.setCell ⟨b, i, none⟩ v)) ∧ Fr base [b] [] w (w.setCell ⟨b, i, none⟩ v) := by
  obtain ⟨cur, g1, g2, g3⟩ := h
  have hf : Fr base [b] [] w (w.setCell ⟨b, i, none⟩ v) := (Fr.refl _ _ _ _).setCell g1 _ hb (.inl (by simp))
  refine ⟨⟨cur.setIfInBounds i v, ?_, by simpa using g2, fun j hj => ?_⟩, fun hl => hl.setCell g1 _ fun e => by simp at e, hf⟩
  · rw [setCell_eq_setRow w b i cur 52 (0, 0) _ g1, setRow_heap w b _ _ _ _ g1]
  · by_cases e : j = i
    · subst e
      exact ⟨v, by rw [Array.getElem?_setIfInBounds_self_of_lt (by omega)], hv.fr hf⟩
    · obtain ⟨u, hu, hs⟩ := g3 j hj
      exact ⟨u, by rw [Array.getElem?_setIfInBounds_ne (by omega)]; exact hu, hs.fr hf⟩
end

/-- What is settled once and for all about an Orderer. -/
structure Stat (base O : Nat) (s : OS) : Prop where
  n1 : 1 ≤ s.n
  n8 : s.n ≤ 8
  self : s.self < s.n
  bO : base ≤ O
  bL : base ≤ s.L
  bK : base ≤ s.K
  bD : base ≤ s.D
  bP : base ≤ s.P
  bH : base ≤ s.H
  bE : base ≤ s.E
  OL : O ≠ s.L
  OK : O ≠ s.K
  OD : O ≠ s.D
  OP : O ≠ s.P
  OH : O ≠ s.H
  OE : O ≠ s.E
  LK : s.L ≠ s.K
  LD : s.L ≠ s.D
  LP : s.L ≠ s.P
  LH : s.L ≠ s.H
  LE : s.L ≠ s.E
  KD : s.K ≠ s.D
  KP : s.K ≠ s.P
  KH : s.K ≠ s.H
  KE : s.K ≠ s.E
  DP : s.D ≠ s.P
  DH : s.D ≠ s.H
  DE : s.D ≠ s.E
  PH : s.P ≠ s.H
  PE : s.P ≠ s.E
  HE : s.H ≠ s.E

/-- What is carried weakly: the logs. -/
structure Wk (base O N : Nat) (s : OS) (w : World) (l : Nat) (holding holders : Int) (scr : Value) (fifo barred : Bool) : Prop where
  ob : Ob w O s l holding holders scr fifo barred
  hl : l < 2 ^ s.n
  scr : LogSl base N w scr
  ok : LogOK base w
  L : Lrow base N w s.L s.n
  K : Urow w s.K s.n
  P : Urow w s.P s.n

theorem Wk.fr {base O N : Nat} {s : OS} {w w' : World} {l : Nat} {holding holders : Int} {scr : Value} {fifo barred : Bool} {S T : List Nat} (h : Wk base O N s w l holding holders scr fifo barred) (hf : Fr base S T w w') (hok : LogOK base w')
    (h1 : O ∉ S) (h2 : s.L ∉ S) (h3 : s.K ∉ S) (h4 : s.P ∉ S) (h5 : 57 ∉ T) (h6 : 52 ∉ T) (h7 : 26 ∉ T) : Wk base O N s w' l holding holders scr fifo barred :=
  ⟨h.ob.fr hf h1 h5, h.hl, h.scr.fr hf, hok, h.L.fr hf h2 h6, h.K.fr hf h3 h7, h.P.fr hf h4 h7⟩
theorem Wk.drewN {base O N : Nat} {s : OS} {w : World} {l : Nat} {holding holders : Int} {scr : Value} {fifo barred : Bool} (h : Wk base O N s w l holding holders scr fifo barred) (q : Nat) : Wk base O N s (w.drewN q) l holding holders scr fifo barred :=
  h.fr ((Fr.refl base [] [] w).drewN q) (h.ok.same rfl) (by simp) (by simp) (by simp) (by simp) (by simp) (by simp) (by simp)
theorem Wk.drew {base O N : Nat} {s : OS} {w : World} {l : Nat} {holding holders : Int} {scr : Value} {fifo barred : Bool} (h : Wk base O N s w l holding holders scr fifo barred) : Wk base O N s w.drew l holding holders scr fifo barred :=
  h.fr (Fr.refl base [] [] w).drew (h.ok.same rfl) (by simp) (by simp) (by simp) (by simp) (by simp) (by simp) (by simp)
theorem Wk.mono {base O N N' : Nat} {s : OS} {w : World} {l : Nat} {holding holders : Int} {scr : Value} {fifo barred : Bool} (h : Wk base O N s w l holding holders scr fifo barred) (hN : N ≤ N') : Wk base O N' s w l holding holders scr fifo barred :=
  ⟨h.ob, h.hl, h.scr.mono hN, h.ok, h.L.mono hN, h.K, h.P⟩

set_option maxHeartbeats 1000000 in
theorem setLog_any (base O N : Nat) (s : OS) (l : Nat) (holding holders : Int) (scr : Value) (fifo barred : Bool) (k : Nat) (v : Value) (w : World) (hS : Stat base O s) (hw : Wk base O N s w l holding holders scr fifo barred) (hk : k < s.n) (hv : LogSl base N w v) :
    Calls Ybaf.prog 28 #[.pointer (some ⟨O, 0, none⟩), .int .i64 k, v] w fun e w' => e = .returned (.tuple #[]) ∧ (∃ l', Wk base O N s w' l' holding holders scr fifo barred) ∧ Fr base [O, s.L] [] w w' := by
  have h8 := hS.n8
  have hl8 := pow8 _ h8
  obtain ⟨n, xs, _, _, _, a, c, rfl⟩ := hv.owns hw.ok
  obtain ⟨⟨v0, q3v, _⟩, f3⟩ := hw.L.cell k hk
  have q3 : w.cell? ⟨O, 3, none⟩ = some (.slice (some ⟨s.L, 0, none⟩) s.n s.cL) := hw.ob.at 3
  obtain ⟨hL', hok', hf'⟩ := hw.L.set k hv hS.bL
  have hO' := hw.ob.fr hf' (by simp; exact hS.OL) (by simp)
  have hl := hw.hl
  have hK := hw.K.fr hf' (by simp; exact Ne.symm hS.LK) (by simp)
  have hP := hw.P.fr hf' (by simp; exact Ne.symm hS.LP) (by simp)
  have hsc := hw.scr.fr hf'
  have hok2 := hok' hw.ok
  have HW : Hid (∀ l' : Nat, l' < 2 ^ s.n → Wk base O N s ((w.setCell ⟨s.L, k, none⟩ (.slice a n c)).setCell ⟨O, 4, none⟩ (.int .u64 l')) l' holding holders scr fifo barred ∧ Fr base [O, s.L] [] w ((w.setCell ⟨s.L, k, none⟩ (.slice a n c)).setCell ⟨O, 4, none⟩ (.int .u64 l'))) := by
    intro l' hl'
    have hf2 : Fr base [O] [] (w.setCell ⟨s.L, k, none⟩ (.slice a n c)) ((w.setCell ⟨s.L, k, none⟩ (.slice a n c)).setCell ⟨O, 4, none⟩ (.int .u64 l')) := (Fr.refl _ _ _ _).setCell hO' _ hS.bO (.inl (by simp))
    exact ⟨⟨hO'.setLogged _, hl', hsc.fr hf2, hok2.setCell hO' _ (fun e => by simp at e), hL'.fr hf2 (by simp; exact Ne.symm hS.OL) (by simp), hK.fr hf2 (by simp; exact Ne.symm hS.OK) (by simp), hP.fr hf2 (by simp; exact Ne.symm hS.OP) (by simp)⟩,
      (hf'.wider (by simp) (by simp)).trans (hf2.wider (by simp) (by simp))⟩
  have q4 : (w.setCell ⟨s.L, k, none⟩ (.slice a n c)).cell? ⟨O, 4, none⟩ = some (.int .u64 l) := hO'.at 4
  have f4 := hO'.free 4
  clear hL' hok' hf' hO' hK hP hsc hok2 hw
  have e4 := or_eq l k (by omega) (by omega)
  have hw4 := HW.out (orBit l k) (or_lt _ _ _ hl hk)
  have hw5 := HW.out (clrBit l k) (Nat.lt_of_le_of_lt (clr_le _ _) hl)
  by_cases hn : 0 < n
  · go_enter Ybaf.func28, Ybaf.ntmps28
    go_wp2
    go_region
    go_wp2
    go_end0
    exact ⟨rfl, ⟨_, hw4.1.drew⟩, hw4.2.drew⟩
  · obtain rfl : n = 0 := by omega
    go_enter Ybaf.func28, Ybaf.ntmps28
    go_wp2_with fail
    refine (without_any _ _ _ (by omega)).mono ?_
    rintro e w1 ⟨rfl, rfl⟩
    rw [clr_eq l k (by omega) (by omega)]
    go_wp2
    go_end0
    exact ⟨rfl, ⟨_, hw5.1⟩, hw5.2⟩

end Go.Proofs.YbulkbobqFmt
