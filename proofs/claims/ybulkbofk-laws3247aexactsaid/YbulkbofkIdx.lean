/-
  The contract of slices.IndexFunc over the standard processes.
-/
import Derived.Test.YbulkbofkProc
namespace Go.Proofs.Ybulkbofk
open Go.RowKit

/-- A standard process. -/
def pStd (q : List Int) (i : Nat) : List Value := pr (q.getD i 0) ⟨#[115, 116, 100]⟩ ⟨#[84]⟩ (100 + (i : Int)) 0 0
/-- A live process's base. -/
def pLive (q : List Int) (i : Nat) : List Value := pr (q.getD i 0) ⟨#[108, 105, 118, 101]⟩ ⟨#[88]⟩ (-1) 0 0
/-- A live process. -/
def lpr (Bs : Nat) (i : Nat) : List Value := [.pointer (some ⟨Bs, i * 13, none⟩), .string (stB i), .int .i64 ((i : Int) + 1), .float .f64 (hf i), .int .u64 ((i : Int) * 4)]
def rOf : Option Nat → Int
  | some j => j
  | none => -1

theorem callClo : ∀ args w, (callFunc 21 args).run Yba.prog w = .ok (.enter 21 args) w := fun _ _ => by kernel_rfl

set_option maxHeartbeats 1000000 in
theorem idx_any (S P : Nat) (q : List Int) (pid : Int) (w : World) (hS : Row w S 32 13 q.length (pStd q)) (hp : w.cell? ⟨P, 0, none⟩ = some (.int .i64 pid)) (hl : q.length ≤ 1024) :
    Calls Yba.prog 20 #[.slice (some ⟨S, 0, none⟩) q.length q.length, .func (.func 21) #[] #[.pointer (some ⟨P, 0, none⟩)]] w fun e w' => ∃ r, First q pid r ∧ e = .returned (.int .i64 (rOf r)) ∧ Below w.heap.size w w' := by
  have hcc := callClo
  have hPl := World.block_lt_of_cell? _ _ hp
  have hSl := hS.lt
  go_enter Yba.func20, Yba.ntmps20
  go_wp2_with fail
  go_loopw [8] (fun i wr => ∃ k : Nat, i = .int .i64 k ∧ k ≤ q.length ∧ Below w.heap.size w wr ∧ ∀ i, i < k → q.getD i 0 ≠ pid) (fun i _ => q.length - (intOf i).toNat)
  case atStart => exact ⟨0, rfl, Nat.zero_le _, Below.refl _ _, fun i hi => by omega⟩
  case round =>
    obtain ⟨k, rfl, hk, hb, hne⟩ := hrel
    have HB : Hid (Below w.heap.size w wr) := hb
    have HN : Hid (∀ i, i < k → q.getD i 0 ≠ pid) := hne
    have hS2 : Row wr S 32 13 q.length (pStd q) := hS.same (hb.block _ hSl)
    have hp2 : wr.cell? ⟨P, 0, none⟩ = some (.int .i64 pid) := (hb.cell hPl).trans hp
    clear hb hne
    by_cases hkl : k < q.length
    · obtain ⟨c0, c1, c2, c3, c4, c5, c6, c7, c8, c9, c10, c11, c12⟩ := (show At13 wr S (k * 13) (pr (q.getD k 0) ⟨#[115, 116, 100]⟩ ⟨#[84]⟩ (100 + (k : Int)) 0 0) from hS2.at13 k hkl).cells
      have hclo := clo_any P pid (q.getD k 0) ⟨#[115, 116, 100]⟩ ⟨#[84]⟩ (100 + (k : Int)) 0 0 wr hp2
      unfold pr s0 at hclo
      have hkl2 : (k : Int) < q.length := by omega
      by_cases he : q.getD k 0 = pid
      · have e : (q.getD k 0 == pid) = true := by simpa using he
        rw [e] at hclo
        have HF : Hid (First q pid (some k)) := ⟨hkl, he, HN.out⟩
        generalize q.getD k 0 = z at *
        clear he e hS2
        go_wp2_with fail
        refine hclo.mono ?_
        rintro e W2 ⟨rfl, hb2⟩
        have HB2 : Hid (Below w.heap.size w W2) := HB.out.trans (hb2.mono HB.out.size)
        clear hb2 hclo c0 c1 c2 c3 c4 c5 c6 c7 c8 c9 c10 c11 c12
        go_wp2
        go_ret
        exact ⟨some k, HF.out, rfl, HB2.out⟩
      · have e : (q.getD k 0 == pid) = false := by simpa using he
        rw [e] at hclo
        have HF : Hid (∀ i, i < k + 1 → q.getD i 0 ≠ pid) := by
          intro i hi
          rcases Nat.lt_or_ge i k with h | h
          · exact HN.out i h
          · rw [show i = k by omega]; exact he
        generalize q.getD k 0 = z at *
        clear he e hS2
        go_wp2_with fail
        refine hclo.mono ?_
        rintro e W2 ⟨rfl, hb2⟩
        have HB2 : Hid (Below w.heap.size w W2) := HB.out.trans (hb2.mono HB.out.size)
        clear hb2 hclo c0 c1 c2 c3 c4 c5 c6 c7 c8 c9 c10 c11 c12
        go_wp2
        go_roundw
        case rel => exact ⟨k + 1, by simp, by omega, HB2.out, HF.out⟩
        case measure => simp [intOf]; omega
    · obtain rfl : k = q.length := by omega
      clear hS2 hkl hk
      go_wp2
      go_ret
      exact ⟨none, HN.out, rfl, HB.out⟩

end Go.Proofs.Ybulkbofk
