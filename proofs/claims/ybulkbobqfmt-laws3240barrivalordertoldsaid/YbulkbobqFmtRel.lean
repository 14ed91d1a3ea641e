/-
  Release as a plain function.
-/
import Derived.Test.YbulkbobqFmtHold
namespace Go.Proofs.YbulkbobqFmt
open Go.RowKit

/-- The front message of queue j goes. -/
def PS.go (σ : PS) (j : Nat) (m : Msg) (ms : List Msg) : PS := { hs := σ.hs, hold := σ.hold - 1, ds := σ.ds.set m.p m.q, qs := σ.qs.set j ((σ.q j).1 + 1, ms), rs := σ.rs ++ [(m.p, m.q)] }
def may (x : Cx) (σ : PS) (m : Msg) : Bool := deliverableB x.fifo x.s.self σ.ds (x.al m)
/-- Queue j goes as far as it may. -/
def dr (x : Cx) (j : Nat) : List Msg → PS → PS
  | [], σ => σ
  | m :: ms, σ => if may x σ m then dr x j ms (σ.go j m ms) else σ
def PS.drop (σ : PS) (j : Nat) : PS := { hs := clrBit σ.hs j, hold := σ.hold, ds := σ.ds, qs := σ.qs, rs := σ.rs }
def PS.tidy (σ : PS) (j : Nat) : PS := if (σ.q j).2.isEmpty then σ.drop j else σ
def visit (x : Cx) (σ : PS) (j : Nat) : PS := (dr x j (σ.q j).2 σ).tidy j
def pass (x : Cx) (σ : PS) : PS := (bitsOf σ.hs).foldl (visit x) σ
def relF (x : Cx) : Nat → PS → PS
  | 0, σ => σ
  | n + 1, σ => if σ.rs.length < (pass x σ).rs.length then relF x n (pass x σ) else pass x σ
def rel (x : Cx) (σ : PS) : PS := relF x (σ.hold + 1) σ

def tot (qs : List (Nat × List Msg)) : Nat := (qs.map fun q => q.2.length).sum
theorem tot_set : ∀ (qs : List (Nat × List Msg)) (j : Nat) (h : j < qs.length) (q : Nat × List Msg), tot (qs.set j q) + qs[j].2.length = tot qs + q.2.length
  | [], j, h, q => by simp at h
  | a :: qs, 0, _, q => by simp [tot]; omega
  | a :: qs, j + 1, h, q => by
    have := tot_set qs j (by simpa using h) q
    simp [tot] at this ⊢
    omega

/-- What the counts say. -/
def Inv (R : Nat) (σ : PS) : Prop := σ.hold = tot σ.qs ∧ σ.rs.length + σ.hold = R

theorem Inv.go {R : Nat} {σ : PS} {j hd : Nat} {m : Msg} {ms : List Msg} (h : Inv R σ) (hj : j < σ.qs.length) (hq : σ.qs[j] = (hd, m :: ms)) : 1 ≤ σ.hold ∧ Inv R (σ.go j m ms) := by
  have ht := tot_set σ.qs j hj ((σ.q j).1 + 1, ms)
  rw [hq] at ht
  obtain ⟨h1, h2⟩ := h
  simp at ht
  refine ⟨by omega, ?_, ?_⟩
  · simp only [PS.go]; omega
  · simp only [PS.go, List.length_append, List.length_cons, List.length_nil]; omega

end Go.Proofs.YbulkbobqFmt
