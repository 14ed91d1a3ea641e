/-
  The contracts of holdsBack and deliverable.
-/
import Derived.Test.YbulkbobqFmtBits
import Derived.Deep.Cut
import Derived.Deep.CutRange
import Derived.Deep.CutBlock
namespace Go.Proofs.YbulkbobqFmt
open Go.RowKit

/-- Does the entry hold a message back? -/
def holdsB (fifo : Bool) (self : Nat) (d q pd : Int) : Bool := !fifo && (bits .and .u64 pd (IntKind.u64.wrap (2 ^ self)) != 0) && decide (d < q)

set_option maxHeartbeats 1000000 in
theorem holdsBack_any (O : Nat) (s : OS) (l holding holders : Int) (scr : Value) (fifo barred : Bool) (sd : Nat) (q pd d : Int) (w : World)
    (hO : Ob w O s l holding holders scr fifo barred) (hself : s.self < 64) (hsd : sd < s.n)
    (hD : w.cell? ⟨s.D, sd, none⟩ = some (.int .u64 d)) (hE : w.cell? ⟨s.E, sd, none⟩ = some (.int .u64 0)) (hd0 : 0 ≤ d) :
    Calls Ybaf.prog 23 #[.pointer (some ⟨O, 0, none⟩), .agg #[.int .i64 sd, .int .u64 q, .int .u64 pd]] w fun e w' => e = .returned (.bool (holdsB fifo s.self d q pd)) ∧ ∃ cur k, w' = (w.alloc (.cells cur 46)).drewN k := by
  go_enter Ybaf.func23, Ybaf.ntmps23
  go_upto_region 1 with fail
  obtain ⟨W, hW⟩ : ∃ W, W = w.alloc (.cells #[.int .i64 sd, .int .u64 q, .int .u64 pd] 46) := ⟨_, rfl⟩
  rw [← hW]
  have hlt : ∀ a v, w.cell? a = some v → W.cell? a = some v := fun a v h => by rw [hW]; exact cell_later ((Below.refl w.heap.size w).alloc (Nat.le_refl _) _) h
  have q15 : W.cell? ⟨O, 15, none⟩ = some (.bool fifo) := hlt _ _ (hO.at 15)
  have q0 : W.cell? ⟨O, 0, none⟩ = some (.int .i64 s.self) := hlt _ _ (hO.at 0)
  have q8 : W.cell? ⟨O, 8, none⟩ = some (.slice (some ⟨s.D, 0, none⟩) s.n s.cD) := hlt _ _ (hO.at 8)
  have q25 : W.cell? ⟨O, 25, none⟩ = some (.slice (some ⟨s.E, 0, none⟩) s.n s.cE) := hlt _ _ (hO.at 25)
  have hD' := hlt _ _ hD
  have hE' := hlt _ _ hE
  have b0 : W.cell? ⟨w.heap.size, 0, none⟩ = some (.int .i64 sd) := by rw [hW]; simp
  have b1 : W.cell? ⟨w.heap.size, 1, none⟩ = some (.int .u64 q) := by rw [hW]; simp
  have b2 : W.cell? ⟨w.heap.size, 2, none⟩ = some (.int .u64 pd) := by rw [hW]; simp
  generalize w.heap.size = B at *
  have HW : Hid (W = w.alloc (.cells #[.int .i64 sd, .int .u64 q, .int .u64 pd] 46)) := hW
  clear hW hlt hO hD hE
  cases fifo
  · cases hB : (bits .and .u64 pd (IntKind.u64.wrap (2 ^ s.self)) != 0)
    · have hr : Hid (holdsB false s.self d q pd = false) := by unfold Hid holdsB; rw [hB]; rfl
      go_quiet (first | (go_at_call 32; refine Calls.quiet_of_same (has_any _ _ _ ?_); exact hself))
      go_wp2
      go_ret
      exact ⟨by rw [hr.out]; rfl, _, _, by rw [HW.out]⟩
    · by_cases hdq : d < q
      · have h1 : decide (q ≤ d) = false := by simp; omega
        have h2 : decide ((0 : Int) < q) = true := by simp; omega
        have hr : Hid (holdsB false s.self d q pd = true) := by unfold Hid holdsB; rw [hB]; simp; omega
        go_quiet (first | (go_at_call 32; refine Calls.quiet_of_same (has_any _ _ _ ?_); exact hself))
        go_wp2
        go_quiet (fail)
        go_wp2
        go_ret
        exact ⟨by rw [hr.out]; rfl, _, _, by rw [HW.out, World.drewN_drewN]⟩
      · have h1 : decide (q ≤ d) = true := by simp; omega
        have hr : Hid (holdsB false s.self d q pd = false) := by unfold Hid holdsB; rw [hB]; simp; omega
        go_quiet (first | (go_at_call 32; refine Calls.quiet_of_same (has_any _ _ _ ?_); exact hself))
        go_wp2
        go_ret
        exact ⟨by rw [hr.out]; rfl, _, _, by rw [HW.out]⟩
  · have hr : Hid (holdsB true s.self d q pd = false) := by unfold Hid holdsB; rfl
    go_quiet (fail)
    go_wp2
    go_ret
    exact ⟨by rw [hr.out]; rfl, _, _, by rw [HW.out]⟩

/-- May the message go? -/
def deliverableB (fifo : Bool) (self : Nat) (ds : List Int) (al : List (Nat × Int × Int)) : Bool := al.all fun e => !holdsB fifo self (ds.getD e.1 0) e.2.1 e.2.2

set_option maxHeartbeats 1000000 in
theorem deliverable_any (O : Nat) (s : OS) (l holding holders : Int) (scr : Value) (fifo barred : Bool) (ds : List Int) (p : Nat) (sq tg : Int) (a : Option Addr) (ml : Nat) (al : List (Nat × Int × Int)) (w : World)
    (hO : Ob w O s l holding holders scr fifo barred) (hself : s.self < 64) (hdl : ds.length = s.n) (hd0 : ∀ z ∈ ds, 0 ≤ z)
    (hD : ∀ i, i < s.n → w.cell? ⟨s.D, i, none⟩ = some (.int .u64 (ds.getD i 0))) (hZ : ∀ i, i < s.n → w.cell? ⟨s.E, i, none⟩ = some (.int .u64 0))
    (hml : al.length = ml) (hE : Ents w (.slice a ml ml) al) (hm1 : ml ≤ 1) (hsd : ∀ e ∈ al, e.1 < s.n) :
    Calls Ybaf.prog 18 #[.pointer (some ⟨O, 0, none⟩), .agg #[.int .i64 p, .int .u64 sq, .int .u64 tg, .slice a ml ml, .int .u64 0, .slice none 0 0, .slice none 0 0, .bool false]] w fun e w' => e = .returned (.bool (deliverableB fifo s.self ds al)) ∧ Below w.heap.size w w' ∧ ∀ base, LogOK base w → LogOK base w' := by
  have hgd : ∀ i, i < s.n → 0 ≤ ds.getD i 0 := fun i hi => by
    rw [List.getD_eq_getElem?_getD, List.getElem?_eq_getElem (by omega)]
    exact hd0 _ (List.getElem_mem _)
  rcases al with _ | ⟨⟨sd, q, pd⟩, al⟩
  · obtain rfl : ml = 0 := hml.symm
    have hr : Hid (deliverableB fifo s.self ds [] = true) := rfl
    go_enter Ybaf.func18, Ybaf.ntmps18
    go_wp2
    go_loop [10] (fun i => i = .int .i64 0) (fun _ => 0)
    case atStart => rfl
    case round =>
      obtain rfl := hrel
      go_wp2
      go_ret
      exact ⟨by rw [hr.out]; rfl, (Below.refl _ _).alloc (Nat.le_refl _) _, fun _ h => h.alloc _ _ (fun e => by simp at e)⟩
  · obtain rfl : al = [] := by
      rcases al with _ | ⟨_, al⟩
      · rfl
      · simp at hml; omega
    obtain rfl : ml = 1 := by simpa using hml.symm
    obtain ⟨b, off, sd', q', pd', rfl, heq, h64, hq0, hq1, hp0, hp1, c0, c1, c2⟩ := (hE : Ents w (.slice a [(sd, q, pd)].length 1) [(sd, q, pd)]).entry 0 (by simp)
    simp only [List.getElem_cons_zero, Prod.mk.injEq] at heq
    obtain ⟨rfl, rfl, rfl⟩ := heq
    simp only [Nat.zero_mul, Nat.add_zero] at c0 c1 c2
    have hsn : sd < s.n := hsd (sd, q, pd) (by simp)
    have hcD := hD sd hsn
    have hcE := hZ sd hsn
    have hdd := hgd sd hsn
    have hr : Hid (deliverableB fifo s.self ds [(sd, q, pd)] = !holdsB fifo s.self (ds.getD sd 0) q pd) := by unfold Hid deliverableB; simp
    generalize ds.getD sd 0 = d at *
    clear hE hsd hD hZ hgd
    go_enter Ybaf.func18, Ybaf.ntmps18
    go_upto_region 1 with fail
    obtain ⟨W, hW⟩ : ∃ W, W = w.alloc (.cells #[.int .i64 p, .int .u64 sq, .int .u64 tg, .slice (some ⟨b, off, none⟩) 1 1, .int .u64 0, .slice none 0 0, .slice none 0 0, .bool false] 32) := ⟨_, rfl⟩
    rw [← hW]
    have hlt : ∀ a v, w.cell? a = some v → W.cell? a = some v := fun a v h => by rw [hW]; exact cell_later ((Below.refl w.heap.size w).alloc (Nat.le_refl _) _) h
    have c0' := hlt _ _ c0
    have c1' := hlt _ _ c1
    have c2' := hlt _ _ c2
    have hD' := hlt _ _ hcD
    have hE' := hlt _ _ hcE
    have hO' : Ob W O s l holding holders scr fifo barred := by rw [hW]; exact hO.same (Below.heap_alloc _ _ _ hO.lt)
    have b3 : W.cell? ⟨w.heap.size, 3, none⟩ = some (.slice (some ⟨b, off, none⟩) 1 1) := by rw [hW]; simp
    have HB : Hid (Below w.heap.size w W ∧ w.heap.size < W.heap.size ∧ ∀ base, LogOK base w → LogOK base W) := ⟨by rw [hW]; exact (Below.refl _ _).alloc (Nat.le_refl _) _, by rw [hW]; simp, fun _ h => by rw [hW]; exact h.alloc _ _ (fun e => by simp at e)⟩
    generalize hBe : w.heap.size = B at *
    have HBE : Hid (w.heap.size = B) := hBe
    clear hBe
    clear hW hlt hO hcD hcE c0 c1 c2
    go_wp2
    go_loopw [10] (fun i wr => (i = .int .i64 0 ∧ wr = W) ∨ (i = .int .i64 1 ∧ (Below B w wr ∧ ∀ base, LogOK base w → LogOK base wr) ∧ holdsB fifo s.self d q pd = false)) (fun i _ => 1 - (intOf i).toNat)
    case atStart => exact .inl ⟨rfl, rfl⟩
    case round =>
      rcases hrel with ⟨rfl, rfl⟩ | ⟨rfl, hbw, hh⟩
      · have hO2 : Ob (wr.alloc (.cells #[.int .i64 sd, .int .u64 q, .int .u64 pd] 46)) O s l holding holders scr fifo barred := hO'.same (Below.heap_alloc _ _ _ hO'.lt)
        have hD2 : (wr.alloc (.cells #[.int .i64 sd, .int .u64 q, .int .u64 pd] 46)).cell? ⟨s.D, sd, none⟩ = some (.int .u64 d) := cell_later ((Below.refl wr.heap.size wr).alloc (Nat.le_refl _) _) hD'
        have hE2 : (wr.alloc (.cells #[.int .i64 sd, .int .u64 q, .int .u64 pd] 46)).cell? ⟨s.E, sd, none⟩ = some (.int .u64 0) := cell_later ((Below.refl wr.heap.size wr).alloc (Nat.le_refl _) _) hE'
        go_wp2_with fail
        refine (holdsBack_any O s l holding holders scr fifo barred sd q pd d _ hO2 hself hsn hD2 hE2 hdd).mono ?_
        rintro e w1 ⟨rfl, o, k, rfl⟩
        have HB2 : Hid (Below B w (((wr.alloc (.cells #[.int .i64 sd, .int .u64 q, .int .u64 pd] 46)).alloc (.cells o 46)).drewN k) ∧ ∀ base, LogOK base w → LogOK base (((wr.alloc (.cells #[.int .i64 sd, .int .u64 q, .int .u64 pd] 46)).alloc (.cells o 46)).drewN k)) := ⟨below_drewN ((HB.out.1.alloc (by have := HB.out.2.1; omega) _).alloc (by have := HB.out.2.1; simp; omega) (.cells o 46)) k, fun _ h => (((HB.out.2.2 _ h).alloc _ _ (fun e => by simp at e)).alloc _ _ (fun e => by simp at e)).same rfl⟩
        generalize ((wr.alloc (.cells #[.int .i64 sd, .int .u64 q, .int .u64 pd] 46)).alloc (.cells o 46)).drewN k = W5 at HB2 ⊢
        cases hh : holdsB fifo s.self d q pd
        · go_wp2
          go_roundw
          case rel => exact .inr ⟨rfl, HB2.out, hh⟩
          case measure => simp [intOf]
        · go_wp2
          go_ret
          exact ⟨by rw [hr.out, hh]; rfl, by rw [HBE.out]; exact HB2.out.1, HB2.out.2⟩
      · have HBw : Hid (Below B w wr ∧ ∀ base, LogOK base w → LogOK base wr) := hbw
        have HHh : Hid (holdsB fifo s.self d q pd = false) := hh
        clear hbw hh
        go_wp2
        go_ret
        exact ⟨by rw [hr.out, HHh.out]; rfl, by rw [HBE.out]; exact HBw.out.1, HBw.out.2⟩

end Go.Proofs.YbulkbobqFmt
