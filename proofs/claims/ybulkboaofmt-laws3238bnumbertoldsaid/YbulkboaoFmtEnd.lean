/-
  The contracts of number at the end token and of zzs3238bkind.
-/
import Derived.Test.YbulkboaoFmtCalls
namespace Go.Proofs.YbulkboaoFmt
open Go.Extern.Stop Go.Stop Go.Extern Go.RowKit
attribute [local go_sem] Ybaf.call9 Ybaf.guard Ybaf.fmtQ Ybaf.fmtQr Ybaf.fmtS Ybaf.fmtSr Ybaf.act9_113 Ybaf.op9_113 Ybaf.act9_115 Ybaf.op9_115

set_option maxHeartbeats 1000000 in
theorem number_end (F : Interp) (P g len cap next : Nat) (k s v : ByteArray) (p : Int) (sp : Option Addr) (w : World) (hF : F.answers w.tape)
    (hp0 : w.cell? ⟨P, 0, none⟩ = some (.slice (some ⟨g, 0, none⟩) len cap)) (hp1 : w.cell? ⟨P, 1, none⟩ = some (.int .i64 next))
    (hn : next < len)
    (hk : (k.toList == [101, 110, 100, 32, 111, 102, 32, 115, 116, 97, 116, 101, 109, 101, 110, 116]) = true) (hk2 : (k.toList == [110, 117, 109, 98, 101, 114]) = false)
    (c0 : w.cell? ⟨g, next * 5, none⟩ = some (.string k)) (c1 : w.cell? ⟨g, next * 5 + 1, none⟩ = some (.string s)) (c2 : w.cell? ⟨g, next * 5 + 2, none⟩ = some (.string v))
    (c3 : w.cell? ⟨g, next * 5 + 3, none⟩ = some (.int .i64 p)) (c4 : w.cell? ⟨g, next * 5 + 4, none⟩ = some (.pointer sp)) :
    Calls Ybaf.prog 5 #[.pointer (some ⟨P, 0, none⟩)] w fun e w' => ∃ x : Nat, w.heap.size ≤ x ∧ e = .returned (.tuple #[.string ⟨#[]⟩, .iface 38 (.pointer (some ⟨x, 0, none⟩))]) ∧
      w'.cell? ⟨x, 0, none⟩ = some (.int .i64 p) ∧ Below w.heap.size w w' := by
  go_enter Ybaf.func5, Ybaf.ntmps5
  go_wp2_with (go_at_call 6; refine (take_end P g len cap next k s v p sp _ hp0 hp1 hn hk c0 c1 c2 c3 c4).mono ?_; rintro e w1 ⟨rfl, hb1⟩)
  have hF1 : F.answers w1.tape := by rw [hb1.tape]; exact hF
  have hs1 : w.heap.size ≤ w1.heap.size := hb1.size
  clear hF hp0 hp1 c0 c1 c2 c3 c4
  go_region_with (first
    | (go_at_call 8; refine (describe_any F _ _ _ _ _ _ ?_).mono ?_; exact hF1; rintro e w2 ⟨t, rfl, hb2⟩; obtain ⟨q0, q1, q2, q3, q4⟩ := tok_cells w1 (.string k) (.string s) (.string v) (.int .i64 p) (.pointer sp) 30 hb2 rfl (by simp); have hz2 : w1.heap.size < w2.heap.size := (by have := hb2.size; simp at this; omega); have hF2 : F.answers w2.tape := (by rw [hb2.tape]; exact hF1))
    | (go_at_call 7; refine (errorf_any F _ _ _ _ _ _ t _ _ ?_ ?_).mono ?_; exact hF2; exact cell_new _ _ _; rintro e w3 ⟨x, hx, rfl, hcx, hb3⟩))
  all_goals
    go_wp2
    go_ret2
    refine ⟨x, ?_, rfl, hcx, ?_⟩
    · simp at hx; omega
    · exact chain3 hb1 (by repeat (first | exact Below.refl _ _ | apply Below.drew | exact Below.alloc (Below.refl _ _) hs1 _)) hb2 (by simp; omega) (Below.alloc (Below.refl _ _) (by omega) _) hb3 (by simp; omega)

set_option maxHeartbeats 400000 in
theorem kind_any (n : Int) (w : World) (h0 : 0 ≤ n) (h1 : n ≤ 255) :
    Calls Ybaf.prog 4 #[.int .u8 n] w fun e w' => ∃ k : ByteArray, e = .returned (.string k) ∧ w' = w := by
  go_enter Ybaf.func4, Ybaf.ntmps4
  go_wp2
  all_goals
    go_ret
    exact ⟨_, rfl, rfl⟩

end Go.Proofs.YbulkboaoFmt
