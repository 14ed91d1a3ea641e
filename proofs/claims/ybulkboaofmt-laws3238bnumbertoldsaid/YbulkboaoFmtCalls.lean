/-
  The contracts of take, errorf, describe, number and zzs3238bkind.
-/
import Derived.Test.YbulkboaoFmtFmt
import Derived.Deep.RegionWith
import Derived.BigQuiet
namespace Go.Proofs.YbulkboaoFmt
open Go.Extern.Stop Go.Stop Go.Extern Go.RowKit
attribute [local go_sem] Ybaf.call9 Ybaf.guard Ybaf.fmtQ Ybaf.fmtQr Ybaf.fmtS Ybaf.fmtSr Ybaf.act9_113 Ybaf.op9_113 Ybaf.act9_115 Ybaf.op9_115

set_option maxHeartbeats 400000 in
theorem errorf_any (F : Interp) (pp : Value) (k s v : ByteArray) (p : Int) (sp : Option Addr) (t : ByteArray) (blk : Nat) (w : World) (hF : F.answers w.tape) (hc : w.cell? ⟨blk, 0, none⟩ = some (.iface 9 (.string t))) :
    Calls Ybaf.prog 7 #[pp, .agg #[.string k, .string s, .string v, .int .i64 p, .pointer sp], .string ⟨#[101, 120, 112, 101, 99, 116, 101, 100, 32, 97, 32, 110, 117, 109, 98, 101, 114, 44, 32, 102, 111, 117, 110, 100, 32, 37, 115]⟩, .slice (some ⟨blk, 0, none⟩) 1 1] w
      fun e w' => ∃ x : Nat, w.heap.size ≤ x ∧ e = .returned (.iface 38 (.pointer (some ⟨x, 0, none⟩))) ∧ w'.cell? ⟨x, 0, none⟩ = some (.int .i64 p) ∧ Below w.heap.size w w' := by
  have hF' := answers_open hF
  have hb : blk < w.heap.size := World.block_lt_of_cell? _ _ hc
  go_enter Ybaf.func7, Ybaf.ntmps7
  go_wp2
  go_region_with (apply rows_value Ybaf.nextTurns; (go_simp; exact ⟨rfl, rfl⟩))
  all_goals
    go_wp2
    go_ret
    refine ⟨_, ?_, rfl, ?_, ?_⟩
    · simp
    · simp
    · repeat (first | exact Below.refl _ _ | apply Below.drew | refine Below.alloc ?_ (by simp) _)

set_option maxHeartbeats 400000 in
theorem take_no (P g len cap next : Nat) (k s v : ByteArray) (p : Int) (sp : Option Addr) (w : World)
    (hp0 : w.cell? ⟨P, 0, none⟩ = some (.slice (some ⟨g, 0, none⟩) len cap)) (hp1 : w.cell? ⟨P, 1, none⟩ = some (.int .i64 next)) (hpf : w.frozen? ⟨P, 1, none⟩ = false)
    (hn : next < len) (hl : len ≤ 2000)
    (hk : (k.toList == [101, 110, 100, 32, 111, 102, 32, 115, 116, 97, 116, 101, 109, 101, 110, 116]) = false)
    (c0 : w.cell? ⟨g, next * 5, none⟩ = some (.string k)) (c1 : w.cell? ⟨g, next * 5 + 1, none⟩ = some (.string s)) (c2 : w.cell? ⟨g, next * 5 + 2, none⟩ = some (.string v))
    (c3 : w.cell? ⟨g, next * 5 + 3, none⟩ = some (.int .i64 p)) (c4 : w.cell? ⟨g, next * 5 + 4, none⟩ = some (.pointer sp)) :
    Calls Ybaf.prog 6 #[.pointer (some ⟨P, 0, none⟩)] w fun e w' => e = .returned (.agg #[.string k, .string s, .string v, .int .i64 p, .pointer sp]) ∧ Below w.heap.size (w.setCell ⟨P, 1, none⟩ (.int .i64 (next + 1))) w' := by
  have hbP : P < w.heap.size := World.block_lt_of_cell? _ _ hp0
  have hbg : g < w.heap.size := World.block_lt_of_cell? _ _ c0
  go_enter Ybaf.func6, Ybaf.ntmps6
  go_wp2
  go_region
  go_wp2
  exact bodyPost_ret (v := .agg #[.string k, .string s, .string v, .int .i64 p, .pointer sp]) (by simp [results, Ybaf.results6, go_sem]) rfl ⟨rfl, (((Below.refl _ _).alloc (by simp) _).alloc (by simp) _).drew⟩

set_option maxHeartbeats 400000 in
theorem take_end (P g len cap next : Nat) (k s v : ByteArray) (p : Int) (sp : Option Addr) (w : World)
    (hp0 : w.cell? ⟨P, 0, none⟩ = some (.slice (some ⟨g, 0, none⟩) len cap)) (hp1 : w.cell? ⟨P, 1, none⟩ = some (.int .i64 next))
    (hn : next < len)
    (hk : (k.toList == [101, 110, 100, 32, 111, 102, 32, 115, 116, 97, 116, 101, 109, 101, 110, 116]) = true)
    (c0 : w.cell? ⟨g, next * 5, none⟩ = some (.string k)) (c1 : w.cell? ⟨g, next * 5 + 1, none⟩ = some (.string s)) (c2 : w.cell? ⟨g, next * 5 + 2, none⟩ = some (.string v))
    (c3 : w.cell? ⟨g, next * 5 + 3, none⟩ = some (.int .i64 p)) (c4 : w.cell? ⟨g, next * 5 + 4, none⟩ = some (.pointer sp)) :
    Calls Ybaf.prog 6 #[.pointer (some ⟨P, 0, none⟩)] w fun e w' => e = .returned (.agg #[.string k, .string s, .string v, .int .i64 p, .pointer sp]) ∧ Below w.heap.size w w' := by
  have hbP : P < w.heap.size := World.block_lt_of_cell? _ _ hp0
  have hbg : g < w.heap.size := World.block_lt_of_cell? _ _ c0
  go_enter Ybaf.func6, Ybaf.ntmps6
  go_wp2
  go_region
  go_wp2
  exact bodyPost_ret (v := .agg #[.string k, .string s, .string v, .int .i64 p, .pointer sp]) (by simp [results, Ybaf.results6, go_sem]) rfl ⟨rfl, (((Below.refl _ _).alloc (by simp) _).alloc (by simp) _).drew⟩

theorem describe_any (F : Interp) (k s v : ByteArray) (p : Int) (sp : Option Addr) (w : World) (hF : F.answers w.tape) :
    Calls Ybaf.prog 8 #[.agg #[.string k, .string s, .string v, .int .i64 p, .pointer sp]] w fun e w' => ∃ t : ByteArray, e = .returned (.string t) ∧ Below w.heap.size w w' := by
  cases hk : (k.toList == [101, 110, 100, 32, 111, 102, 32, 115, 116, 97, 116, 101, 109, 101, 110, 116])
  · exact describe_no F k s v p sp w hF hk
  · go_enter Ybaf.func8, Ybaf.ntmps8
    go_wp2
    go_ret
    exact ⟨_, rfl, (Below.refl _ _).alloc (Nat.le_refl _) _⟩

set_option maxHeartbeats 400000 in
theorem number_num (P g len cap next : Nat) (k s v : ByteArray) (p : Int) (sp : Option Addr) (w : World)
    (hp0 : w.cell? ⟨P, 0, none⟩ = some (.slice (some ⟨g, 0, none⟩) len cap)) (hp1 : w.cell? ⟨P, 1, none⟩ = some (.int .i64 next)) (hpf : w.frozen? ⟨P, 1, none⟩ = false)
    (hn : next < len) (hl : len ≤ 2000)
    (hk : (k.toList == [101, 110, 100, 32, 111, 102, 32, 115, 116, 97, 116, 101, 109, 101, 110, 116]) = false) (hk2 : (k.toList == [110, 117, 109, 98, 101, 114]) = true)
    (c0 : w.cell? ⟨g, next * 5, none⟩ = some (.string k)) (c1 : w.cell? ⟨g, next * 5 + 1, none⟩ = some (.string s)) (c2 : w.cell? ⟨g, next * 5 + 2, none⟩ = some (.string v))
    (c3 : w.cell? ⟨g, next * 5 + 3, none⟩ = some (.int .i64 p)) (c4 : w.cell? ⟨g, next * 5 + 4, none⟩ = some (.pointer sp)) :
    Calls Ybaf.prog 5 #[.pointer (some ⟨P, 0, none⟩)] w fun e w' => e = .returned (.tuple #[.string s, .nilIface]) ∧ Below w.heap.size (w.setCell ⟨P, 1, none⟩ (.int .i64 (next + 1))) w' := by
  go_enter Ybaf.func5, Ybaf.ntmps5
  go_wp2_with (go_at_call 6; refine (take_no P g len cap next k s v p sp _ hp0 hp1 hpf hn hl hk c0 c1 c2 c3 c4).mono ?_; rintro e w1 ⟨rfl, hb1⟩)
  go_ret2
  exact ⟨rfl, hb1.alloc (by have := hb1.size; simpa using this) _⟩

theorem cell_new (w : World) (v : Value) (e : TypeId) : (w.alloc (.cells #[v] e)).cell? ⟨w.heap.size, 0, none⟩ = some v := by simp

theorem cells5 {B n : Nat} {W w2 : World} {x0 x1 x2 x3 x4 : Value} (hb : Below B W w2) (hB : n < B) (h0 : W.cell? ⟨n, 0, none⟩ = some x0) (h1 : W.cell? ⟨n, 1, none⟩ = some x1) (h2 : W.cell? ⟨n, 2, none⟩ = some x2)
    (h3 : W.cell? ⟨n, 3, none⟩ = some x3) (h4 : W.cell? ⟨n, 4, none⟩ = some x4) :
    w2.cell? ⟨n, 0, none⟩ = some x0 ∧ w2.cell? ⟨n, 1, none⟩ = some x1 ∧ w2.cell? ⟨n, 2, none⟩ = some x2 ∧ w2.cell? ⟨n, 3, none⟩ = some x3 ∧ w2.cell? ⟨n, 4, none⟩ = some x4 :=
  ⟨(hb.cell (p := ⟨n, 0, none⟩) hB).trans h0, (hb.cell (p := ⟨n, 1, none⟩) hB).trans h1, (hb.cell (p := ⟨n, 2, none⟩) hB).trans h2, (hb.cell (p := ⟨n, 3, none⟩) hB).trans h3, (hb.cell (p := ⟨n, 4, none⟩) hB).trans h4⟩

theorem tok_cells (w : World) (x0 x1 x2 x3 x4 : Value) (e : TypeId) {w2 : World} {B : Nat} {W : World} (hb : Below B W w2) (hW : W.heap = (w.alloc (.cells #[x0, x1, x2, x3, x4] e)).heap) (hB : w.heap.size < B) :
    w2.cell? ⟨w.heap.size, 0, none⟩ = some x0 ∧ w2.cell? ⟨w.heap.size, 1, none⟩ = some x1 ∧ w2.cell? ⟨w.heap.size, 2, none⟩ = some x2 ∧ w2.cell? ⟨w.heap.size, 3, none⟩ = some x3 ∧ w2.cell? ⟨w.heap.size, 4, none⟩ = some x4 := by
  have hc : ∀ a, W.cell? a = (w.alloc (.cells #[x0, x1, x2, x3, x4] e)).cell? a := fun a => by simp only [World.cell?, hW]
  exact cells5 hb hB (by rw [hc]; simp) (by rw [hc]; simp) (by rw [hc]; simp) (by rw [hc]; simp) (by rw [hc]; simp)

theorem chain3 {B B2 B3 : Nat} {w0 w1 w2 w3 W1 W2 : World} (hb1 : Below B w0 w1) (hW1 : Below B w1 W1) (hb2 : Below B2 W1 w2) (h2 : B ≤ B2) (hW2 : Below B w2 W2) (hb3 : Below B3 W2 w3) (h3 : B ≤ B3) : Below B w0 w3 :=
  (((hb1.trans hW1).trans (hb2.mono h2)).trans hW2).trans (hb3.mono h3)

theorem bcell {B : Nat} {W w1 : World} (hb : Below B W w1) : (∀ b o, b < B → w1.cell? ⟨b, o, none⟩ = W.cell? ⟨b, o, none⟩) ∧ (∀ b o, b < B → w1.frozen? ⟨b, o, none⟩ = W.frozen? ⟨b, o, none⟩) :=
  ⟨fun b o h => hb.cell (p := ⟨b, o, none⟩) h, fun b o h => hb.frozen (p := ⟨b, o, none⟩) h⟩

set_option maxHeartbeats 1000000 in
theorem number_other (F : Interp) (P g len cap next : Nat) (k s v : ByteArray) (p : Int) (sp : Option Addr) (w : World) (hF : F.answers w.tape)
    (hp0 : w.cell? ⟨P, 0, none⟩ = some (.slice (some ⟨g, 0, none⟩) len cap)) (hp1 : w.cell? ⟨P, 1, none⟩ = some (.int .i64 next)) (hpf : w.frozen? ⟨P, 1, none⟩ = false)
    (hn : next < len) (hl : len ≤ 2000)
    (hk : (k.toList == [101, 110, 100, 32, 111, 102, 32, 115, 116, 97, 116, 101, 109, 101, 110, 116]) = false) (hk2 : (k.toList == [110, 117, 109, 98, 101, 114]) = false)
    (c0 : w.cell? ⟨g, next * 5, none⟩ = some (.string k)) (c1 : w.cell? ⟨g, next * 5 + 1, none⟩ = some (.string s)) (c2 : w.cell? ⟨g, next * 5 + 2, none⟩ = some (.string v))
    (c3 : w.cell? ⟨g, next * 5 + 3, none⟩ = some (.int .i64 p)) (c4 : w.cell? ⟨g, next * 5 + 4, none⟩ = some (.pointer sp)) :
    Calls Ybaf.prog 5 #[.pointer (some ⟨P, 0, none⟩)] w fun e w' => ∃ x : Nat, w.heap.size ≤ x ∧ e = .returned (.tuple #[.string ⟨#[]⟩, .iface 38 (.pointer (some ⟨x, 0, none⟩))]) ∧
      w'.cell? ⟨x, 0, none⟩ = some (.int .i64 p) ∧ Below w.heap.size (w.setCell ⟨P, 1, none⟩ (.int .i64 (next + 1))) w' := by
  go_enter Ybaf.func5, Ybaf.ntmps5
  go_wp2_with (go_at_call 6; refine (take_no P g len cap next k s v p sp _ hp0 hp1 hpf hn hl hk c0 c1 c2 c3 c4).mono ?_; rintro e w1 ⟨rfl, hb1⟩)
  have hF1 : F.answers w1.tape := by rw [hb1.tape]; exact hF
  have hs1 : w.heap.size ≤ w1.heap.size := by have := hb1.size; simpa using this
  clear hF hp0 hp1 hpf c0 c1 c2 c3 c4
  go_region_with (first
    | (go_at_call 8; refine (describe_any F _ _ _ _ _ _ ?_).mono ?_; exact hF1; rintro e w2 ⟨t, rfl, hb2⟩; obtain ⟨q0, q1, q2, q3, q4⟩ := tok_cells w1 (.string k) (.string s) (.string v) (.int .i64 p) (.pointer sp) 30 hb2 rfl (by simp); have hz2 : w1.heap.size < w2.heap.size := (by have := hb2.size; simp at this; omega); have hF2 : F.answers w2.tape := (by rw [hb2.tape]; exact hF1))
    | (go_at_call 7; refine (errorf_any F _ _ _ _ _ _ t _ _ ?_ ?_).mono ?_; exact hF2; exact cell_new _ _ _; rintro e w3 ⟨x, hx, rfl, hcx, hb3⟩))
  all_goals
    go_wp2
    go_ret2
    refine ⟨x, ?_, rfl, hcx, ?_⟩
    · simp at hx; omega
    · exact chain3 hb1 (by repeat (first | exact Below.refl _ _ | apply Below.drew | exact Below.alloc (Below.refl _ _) hs1 _)) hb2 (by simp; omega) (Below.alloc (Below.refl _ _) (by omega) _) hb3 (by simp; omega)

end Go.Proofs.YbulkboaoFmt
