/-
  The contracts of binary.LittleEndian.Uint64, readUint and readInt.
-/
import Derived.Test.YbulkbobcFmtLoop
import Derived.Lib.EndianBits
namespace Go.Proofs.YbulkbobcFmt
open Go.Extern.Stop Go.Stop Go.Extern Go.RowKit

set_option maxHeartbeats 2000000 in
set_option maxRecDepth 100000 in
theorem leUint64 (g : Nat) (b0 b1 b2 b3 b4 b5 b6 b7 : Int) (rv : Value) (hrv : rv = .agg #[]) (w : World)
    (c0 : w.cell? ⟨g, 8, none⟩ = some (.int .u8 b0)) (c1 : w.cell? ⟨g, 9, none⟩ = some (.int .u8 b1)) (c2 : w.cell? ⟨g, 10, none⟩ = some (.int .u8 b2)) (c3 : w.cell? ⟨g, 11, none⟩ = some (.int .u8 b3))
    (c4 : w.cell? ⟨g, 12, none⟩ = some (.int .u8 b4)) (c5 : w.cell? ⟨g, 13, none⟩ = some (.int .u8 b5)) (c6 : w.cell? ⟨g, 14, none⟩ = some (.int .u8 b6)) (c7 : w.cell? ⟨g, 15, none⟩ = some (.int .u8 b7))
    (h0 : 0 ≤ b0 ∧ b0 ≤ 255) (h1 : 0 ≤ b1 ∧ b1 ≤ 255) (h2 : 0 ≤ b2 ∧ b2 ≤ 255) (h3 : 0 ≤ b3 ∧ b3 ≤ 255) (h4 : 0 ≤ b4 ∧ b4 ≤ 255) (h5 : 0 ≤ b5 ∧ b5 ≤ 255) (h6 : 0 ≤ b6 ∧ b6 ≤ 255) (h7 : 0 ≤ b7 ∧ b7 ≤ 255) :
    Calls Ybaf.prog 12 #[rv, .slice (some ⟨g, 8, none⟩) 8 8] w fun e w' =>
      e = .returned (.int .u64 (b0 + b1 * 256 + b2 * 65536 + b3 * 16777216 + b4 * 4294967296 + b5 * 1099511627776 + b6 * 281474976710656 + b7 * 72057594037927936)) ∧ Below w.heap.size w w' := by
  subst hrv
  have hg : g < w.heap.size := World.block_lt_of_cell? _ _ c0
  obtain ⟨h0a, h0b⟩ := h0; obtain ⟨h1a, h1b⟩ := h1; obtain ⟨h2a, h2b⟩ := h2; obtain ⟨h3a, h3b⟩ := h3
  obtain ⟨h4a, h4b⟩ := h4; obtain ⟨h5a, h5b⟩ := h5; obtain ⟨h6a, h6b⟩ := h6; obtain ⟨h7a, h7b⟩ := h7
  go_enter Ybaf.func12, Ybaf.ntmps12
  go_wp2
  go_quiet (fail)
  go_wp2
  go_ret
  refine ⟨?_, ((Below.refl _ w).alloc (Nat.le_refl _) _).trans ⟨rfl, rfl, rfl, Nat.le_refl _, fun _ _ => rfl⟩⟩
  simp (disch := omega) only [u64_or8, u64_or16, u64_or24, u64_or32, u64_or40, u64_or48, u64_or56]
  rfl

/-- Little-endian. -/
def leI : List Int → Int
  | [] => 0
  | x :: t => x + 256 * leI t

theorem leI_bd : ∀ bs : List Int, (∀ x ∈ bs, 0 ≤ x ∧ x ≤ 255) → 0 ≤ leI bs ∧ leI bs < 256 ^ bs.length
  | [], _ => by simp [leI]
  | x :: t, h => by
    have ih := leI_bd t fun y hy => h y (List.mem_cons_of_mem _ hy)
    have hx := h x (List.mem_cons_self ..)
    simp only [leI, List.length_cons, Int.pow_succ]
    omega

theorem leI_append : ∀ xs ys : List Int, leI (xs ++ ys) = leI xs + 256 ^ xs.length * leI ys
  | [], ys => by simp [leI]
  | x :: t, ys => by
    simp only [List.cons_append, leI, List.length_cons, Int.pow_succ, leI_append t ys]
    generalize leI t = a
    generalize leI ys = b
    generalize (256 : Int) ^ t.length = c
    rw [Int.mul_add, Int.mul_comm c 256, Int.mul_assoc, Int.add_assoc]

/-- Eight numbers of a list of eight. -/
theorem eight {α : Type} : ∀ l : List α, l.length = 8 → ∃ a b c d e f g h, l = [a, b, c, d, e, f, g, h]
  | [a, b, c, d, e, f, g, h], _ => ⟨a, b, c, d, e, f, g, h, rfl⟩

theorem full_any (F : Interp) {B C R g cap : Nat} {ea : Addr} {vs : List Value} {xss : List (List Int)} {w : World} {xs : List Int} {size : Int} {ds : List Value} (wd : Nat) (hF : F.answers w.tape)
    (h : St B C R g cap ea vs xss w 0 0 xs size 0 ds) (hw1 : 1 ≤ wd) (hw8 : wd ≤ 8) (hs0 : 0 ≤ size) (hs2 : size ≤ 9223372036854775807) :
    Calls Ybaf.prog 11 #[.pointer (some ⟨C, 0, none⟩), .slice (some ⟨C, 8, none⟩) wd 8] w fun e w' => Only w.heap.size [C, R] w w' ∧
      ((e = .returned .nilIface ∧ (wd ≤ xs.length ∨ ((wd : Int) ≤ size ∧ wd ≤ (stream xs 0 xss 0).length)) ∧ ∃ bs rest a u pos', bs.length = wd ∧ stream xs 0 xss 0 = bs ++ rest ∧ (∀ x ∈ bs, 0 ≤ x ∧ x ≤ 255) ∧ Cont w' C R a u size pos' (bs.map (Value.int .u8) ++ ds.drop wd)) ∨
       ((∃ x, e = .returned (.iface 59 (.pointer (some x)))) ∧ ¬ (wd ≤ xs.length ∨ ((wd : Int) ≤ size ∧ wd ≤ (stream xs 0 xss 0).length)))) := by
  have hxl := h.hxl
  by_cases h1 : wd ≤ xs.length
  · obtain ⟨a, c, hC, hrun⟩ := h.cont
    obtain ⟨hby, hrr⟩ := hrun
    rcases hrr with ⟨h0, _⟩ | ⟨b, o, c2, hv, hlc, _, hbB, hbS, hcell⟩
    · rw [h0] at h1; simp at h1; omega
    obtain ⟨rfl, rfl⟩ : a = some ⟨b, o, none⟩ ∧ c = c2 := by simpa using hv
    refine (full_here C R b o c wd xs size 0 ds w hC hlc hxl hw1 hw8 h1 (by omega) (by omega) hcell).mono ?_
    rintro e w' ⟨rfl, ho, hC'⟩
    refine ⟨ho.wider (by simp), .inl ⟨rfl, .inl h1, xs.take wd, xs.drop wd ++ (xss.drop 0).flatten, _, _, _, by simp; omega, ?_, fun x hx => hby x (List.mem_of_mem_take hx), hC'⟩⟩
    unfold stream
    rw [List.drop_zero, ← List.append_assoc, List.take_append_drop]
  · by_cases h2 : (wd : Int) ≤ size
    · refine (full_loop F wd hF h hw8 (by omega) h2 hs2).mono ?_
      rintro e w' ⟨ho, hcase⟩
      refine ⟨ho, ?_⟩
      rcases hcase with ⟨rfl, bs, rest, a, u, pos', hbl, hst, hby, hC⟩ | ⟨hx, hlt⟩
      · exact .inl ⟨rfl, .inr ⟨h2, by rw [hst, List.length_append]; omega⟩, bs, rest, a, u, pos', hbl, hst, hby, hC⟩
      · exact .inr ⟨hx, fun hh => by rcases hh with hh | ⟨_, hh⟩ <;> omega⟩
    · obtain ⟨a, c, hC, hrun⟩ := h.cont
      refine (full_bad F C R xs.length c wd a size ds w hF hC hxl hw8 (by omega) hs0 (by omega)).mono ?_
      rintro e w' ⟨hx, hb⟩
      exact ⟨Only.ofBelow hb, .inr ⟨hx, fun hh => by rcases hh with hh | ⟨hh, _⟩ <;> omega⟩⟩

theorem shl_shr (wd : Nat) (h1 : 1 ≤ wd) (h8 : wd ≤ 8) (a k : Int) (ha : 0 ≤ a) (hb : a < 256 ^ wd) :
    IntKind.u64.wrap ((a + 256 ^ wd * k) * 2 ^ (64 - 8 * (wd : Int)).toNat) / 2 ^ (64 - 8 * (wd : Int)).toNat = a := by
  rw [IntKind.wrap_u64]
  match wd, h1, h8 with
  | 1, _, _ => simp only [show (64 - 8 * ((1 : Nat) : Int)).toNat = 56 from rfl] at *; omega
  | 2, _, _ => simp only [show (64 - 8 * ((2 : Nat) : Int)).toNat = 48 from rfl] at *; omega
  | 3, _, _ => simp only [show (64 - 8 * ((3 : Nat) : Int)).toNat = 40 from rfl] at *; omega
  | 4, _, _ => simp only [show (64 - 8 * ((4 : Nat) : Int)).toNat = 32 from rfl] at *; omega
  | 5, _, _ => simp only [show (64 - 8 * ((5 : Nat) : Int)).toNat = 24 from rfl] at *; omega
  | 6, _, _ => simp only [show (64 - 8 * ((6 : Nat) : Int)).toNat = 16 from rfl] at *; omega
  | 7, _, _ => simp only [show (64 - 8 * ((7 : Nat) : Int)).toNat = 8 from rfl] at *; omega
  | 8, _, _ => simp only [show (64 - 8 * ((8 : Nat) : Int)).toNat = 0 from rfl] at *; omega

theorem leI_eight (b0 b1 b2 b3 b4 b5 b6 b7 : Int) : b0 + b1 * 256 + b2 * 65536 + b3 * 16777216 + b4 * 4294967296 + b5 * 1099511627776 + b6 * 281474976710656 + b7 * 72057594037927936 = leI [b0, b1, b2, b3, b4, b5, b6, b7] := by
  simp only [leI]; omega

theorem Ybaf.len25 : Ybaf.prog.arrayLen 25 = 8 := by kernel_rfl
theorem Ybaf.elem25 : Ybaf.prog.elem 25 = 5 := by kernel_rfl
theorem sl25 (a : Addr) (wd : Nat) (h : wd ≤ 8) (w : World) : (Instr.sliceAt 25 (.pointer (some a)) none (some (.int .i64 wd)) none).run Ybaf.prog w = .ok (.slice (some a) wd 8) w := by
  have hs : ((sizeOf 5).run Ybaf.prog w) = .ok 1 w := by kernel_rfl
  rw [run_sliceAt_array_h w 25 a (by kernel_rfl) .i64 wd (by omega) (by rw [Ybaf.len25]; omega), Ybaf.elem25, hs, Ybaf.len25]
  simp [slicedAt, Addr.add]
theorem sl25all (a : Addr) (w : World) : (Instr.sliceAt 25 (.pointer (some a)) none none none).run Ybaf.prog w = .ok (.slice (some a) 8 8) w := by
  have hs : ((sizeOf 5).run Ybaf.prog w) = .ok 1 w := by kernel_rfl
  rw [run_sliceAt_array_all w 25 a (by kernel_rfl), Ybaf.elem25, hs, Ybaf.len25]
  simp [slicedAt, Addr.add]

set_option maxRecDepth 100000 in
set_option maxHeartbeats 2000000 in
theorem readUint_any (F : Interp) {B C R g cap : Nat} {ea : Addr} {vs : List Value} {xss : List (List Int)} {w : World} {xs : List Int} {size : Int} {jk : List Int} (wd : Nat) (hF : F.answers w.tape)
    (h : St B C R g cap ea vs xss w 0 0 xs size 0 (jk.map (Value.int .u8))) (hw1 : 1 ≤ wd) (hw8 : wd ≤ 8) (hs0 : 0 ≤ size) (hs2 : size ≤ 9223372036854775807) (hjl : jk.length = 8) (hjk : ∀ x ∈ jk, 0 ≤ x ∧ x ≤ 255) :
    Calls Ybaf.prog 7 #[.pointer (some ⟨C, 0, none⟩), .int .i64 wd] w fun e w' => Only w.heap.size [C, R] w w' ∧
      (((wd ≤ xs.length ∨ ((wd : Int) ≤ size ∧ wd ≤ (stream xs 0 xss 0).length)) ∧ ∃ bs rest, bs.length = wd ∧ stream xs 0 xss 0 = bs ++ rest ∧ (∀ x ∈ bs, 0 ≤ x ∧ x ≤ 255) ∧ e = .returned (.tuple #[.int .u64 (leI bs), .nilIface])) ∨
       ((∃ x, e = .returned (.tuple #[.int .u64 0, .iface 59 (.pointer (some x))])) ∧ ¬ (wd ≤ xs.length ∨ ((wd : Int) ≤ size ∧ wd ≤ (stream xs 0 xss 0).length)))) := by
  have hCs : C < w.heap.size := by have := h.hCB; have := h.hB; omega
  have hCell := h.cont
  have hsl := fun W => sl25 ⟨C, 8, none⟩ wd hw8 W
  go_enter Ybaf.func7, Ybaf.ntmps7
  go_wp2_with fail
  refine (full_any F wd hF h hw1 hw8 hs0 hs2).mono ?_
  rintro e w1 ⟨ho, hcase⟩
  rcases hcase with ⟨rfl, hok, bs, rest, a, u, pos', hbl, hst, hby, hC⟩ | ⟨⟨x, rfl⟩, hno⟩
  · have hDl : (bs ++ jk.drop wd).length = 8 := by rw [List.length_append, List.length_drop, hbl]; omega
    have hDb : ∀ x ∈ bs ++ jk.drop wd, 0 ≤ x ∧ x ≤ 255 := fun x hx => by
      rcases List.mem_append.1 hx with hx | hx
      · exact hby x hx
      · exact hjk x (List.mem_of_mem_drop hx)
    rw [← List.map_drop, ← List.map_append] at hC
    obtain ⟨b0, b1, b2, b3, b4, b5, b6, b7, hD⟩ := eight _ hDl
    have HD : Hid (bs ++ jk.drop wd = [b0, b1, b2, b3, b4, b5, b6, b7]) := hD
    rw [hD] at hC hDb
    have c0 : w1.cell? ⟨C, 8, none⟩ = some (.int .u8 b0) := hC.data 0 (by omega)
    have c1 : w1.cell? ⟨C, 9, none⟩ = some (.int .u8 b1) := hC.data 1 (by omega)
    have c2 : w1.cell? ⟨C, 10, none⟩ = some (.int .u8 b2) := hC.data 2 (by omega)
    have c3 : w1.cell? ⟨C, 11, none⟩ = some (.int .u8 b3) := hC.data 3 (by omega)
    have c4 : w1.cell? ⟨C, 12, none⟩ = some (.int .u8 b4) := hC.data 4 (by omega)
    have c5 : w1.cell? ⟨C, 13, none⟩ = some (.int .u8 b5) := hC.data 5 (by omega)
    have c6 : w1.cell? ⟨C, 14, none⟩ = some (.int .u8 b6) := hC.data 6 (by omega)
    have c7 : w1.cell? ⟨C, 15, none⟩ = some (.int .u8 b7) := hC.data 7 (by omega)
    have HOK : Hid ((wd ≤ xs.length ∨ ((wd : Int) ≤ size ∧ wd ≤ (stream xs 0 xss 0).length)) ∧ bs.length = wd ∧ stream xs 0 xss 0 = bs ++ rest ∧ (∀ x ∈ bs, 0 ≤ x ∧ x ≤ 255)) := ⟨hok, hbl, hst, hby⟩
    have HO : Hid (Only w.heap.size [C, R] w w1) := ho
    have HDB : Hid (∀ x ∈ [b0, b1, b2, b3, b4, b5, b6, b7], 0 ≤ x ∧ x ≤ 255) := hDb
    clear hok hbl hst hby ho hDb hD hDl hC h hCell hsl
    have hsa := fun W => sl25all ⟨C, 8, none⟩ W
    go_wp2
    go_region_with (go_at_call 12; go_must (refine (leUint64 C b0 b1 b2 b3 b4 b5 b6 b7 _ rfl _ ?_ ?_ ?_ ?_ ?_ ?_ ?_ ?_ (HDB.out _ (by simp)) (HDB.out _ (by simp)) (HDB.out _ (by simp)) (HDB.out _ (by simp)) (HDB.out _ (by simp)) (HDB.out _ (by simp)) (HDB.out _ (by simp)) (HDB.out _ (by simp))).mono ?_); exact c0; exact c1; exact c2; exact c3; exact c4; exact c5; exact c6; exact c7; rintro e w2 ⟨rfl, hb2⟩)
    all_goals
      go_wp2
      go_ret2
      refine ⟨?_, .inl ⟨HOK.out.1, bs, rest, HOK.out.2.1, HOK.out.2.2.1, HOK.out.2.2.2, ?_⟩⟩
      · exact HO.out.drew.trans (Only.ofBelow (hb2.mono (by have := HO.out.size; simpa using this)))
      · have hv : IntKind.u64.wrap ((b0 + b1 * 256 + b2 * 65536 + b3 * 16777216 + b4 * 4294967296 + b5 * 1099511627776 + b6 * 281474976710656 + b7 * 72057594037927936) * 2 ^ (64 - 8 * (wd : Int)).toNat) / 2 ^ (64 - 8 * (wd : Int)).toNat = leI bs := by
          have hbd := leI_bd bs HOK.out.2.2.2
          rw [leI_eight, ← HD.out, leI_append, HOK.out.2.1]
          rw [HOK.out.2.1] at hbd
          exact shl_shr wd hw1 hw8 _ _ hbd.1 hbd.2
        rw [← hv]
        simp [Act.put]
  · have HN : Hid (¬ (wd ≤ xs.length ∨ ((wd : Int) ≤ size ∧ wd ≤ (stream xs 0 xss 0).length))) := hno
    have HO : Hid (Only w.heap.size [C, R] w w1) := ho
    clear hno ho hCell h
    go_wp2
    go_ret2
    exact ⟨HO.out, .inr ⟨⟨x, rfl⟩, HN.out⟩⟩

end Go.Proofs.YbulkbobcFmt
