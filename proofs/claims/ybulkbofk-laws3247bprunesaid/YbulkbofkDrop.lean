/- The contract of dropLocked. -/
import Derived.Test.YbulkbofkSt
namespace Go.Proofs.Ybulkbofk
open Go.RowKit

/-- O without the hosts q of viewer v. -/
def cutN (O : Nat → Nat → Bool) (q : List Nat) (v : Nat) : Nat → Nat → Bool := fun h' v' => O h' v' && !(v' == v && q.contains h')

theorem cutN_step (O : Nat → Nat → Bool) (q : List Nat) (v k : Nat) (hk : k < q.length) (h' v' : Nat) : cut1 (cutN O (q.take k) v) (q.getD k 0) v h' v' = cutN O (q.take (k + 1)) v h' v' := by
  have e : q.take (k + 1) = q.take k ++ [q.getD k 0] := by
    rw [List.take_add_one, List.getElem?_eq_getElem hk]
    simp [List.getD_eq_getElem?_getD, hk]
  unfold cut1 cutN
  rw [e]
  clear e
  generalize q.getD k 0 = h
  simp only [List.contains_eq_mem, List.mem_append, List.mem_singleton]
  by_cases h1 : v' = v
  · subst h1
    by_cases h2 : h' = h <;> by_cases h3 : h' ∈ q.take k <;> simp [h2, h3]
  · have h1' : (v' == v) = false := by simpa using h1
    simp [h1']

theorem field70 (a b c d : Value) (ha : ∃ x n k, a = .slice x n k) (w : World) : (Instr.field 70 (.agg #[a, b, c, d]) 0).run Yba.prog w = .ok a w := by
  obtain ⟨x, n, k, rfl⟩ := ha
  simp [Instr.field, go_sem, Yba.runUnderlying70, Result.andThen, part, asAgg]

/-- What is no map is as it was. -/
def NM (w w' : World) : Prop := ∀ (j : Nat) (o : Obj), w.heap[j]? = some o → (∀ es c, o ≠ Obj.map es c) → w'.heap[j]? = some o
theorem NM.refl (w : World) : NM w w := fun _ _ h _ => h
theorem NM.turned {w w1 w2 : World} {b : Nat} (h : NM w w1) (ht : w1.mapTurned w2 b) : NM w w2 := fun j o hj ho => by
  have h1 := h j o hj ho
  refine (turned_heap ht ?_).trans h1
  intro e
  obtain ⟨es, clock, _, _, hm, _⟩ := ht
  rw [← e, h1] at hm
  exact ho es clock (Option.some.inj hm)

theorem St.turned {w w' : World} {B bs bv bo bw b : Nat} {st : Int} {O O' : Nat → Nat → Bool} {ob : Nat → Option Nat} (h : St w B bs bv bo bw st O) (ht : w.mapTurned w' b) (hb : b ≠ bw) (ho : OS w' B bv bo bw O' ob) : St w' B bs bv bo bw st O' := by
  refine ⟨(turned_heap ht ?_).trans h.c, (turned_heap ht (Ne.symm hb)).trans h.wt, h.k, ob, ho⟩
  intro e
  obtain ⟨es, clock, _, _, hm, _⟩ := ht
  rw [← e, h.c] at hm
  cases hm

theorem RngT.turned {w w' : World} {b r N b' cnt : Nat} {nm : Nat → Value} {f : Nat → Option Value} {left : Nat → Bool} (h : RngT w b r N nm f left cnt) (ht : w.mapTurned w' b') (hb : b ≠ b') : RngT w' b r N nm f left cnt := by
  refine h.kept (turned_heap ht hb) (turned_heap ht ?_)
  intro e
  obtain ⟨es, clock, _, _, hm, _⟩ := ht
  obtain ⟨_, _, _, _, _, _, _, hr, _⟩ := h
  rw [← e, hr] at hm
  cases hm

set_option maxRecDepth 100000 in
set_option maxHeartbeats 2000000 in
theorem drop_any (B bs bv bo bw r v0 : Nat) (hv0 : v0 < 4) (V : Nat → Option Value) (O : Nat → Nat → Bool) (left : Nat → Bool) (cnt : Nat) (q : List Nat) (u : Value) (n s : Value) (w : World)
    (hst : St w B bs bv bo bw 1 O) (hr : RngT w bv r 4 vv V left cnt) (hV : V v0 = some (.agg #[u, n, s, .pointer none])) (hu : SlS w B u q) (hq : ∀ h ∈ q, h < 3) (hl : q.length ≤ 256) :
    Calls Yba.prog 30 #[.pointer (some ⟨bs, 0, none⟩), vv v0] w fun e w' => e = .returned (.tuple #[]) ∧ ∃ cnt', cnt' ≤ cnt ∧ RngT w' bv r 4 vv (upd V v0 none) (strike left v0) cnt' ∧ St w' B bs bv bo bw 1 (cutN O q v0) ∧ Below B w w' ∧ NM w w' ∧ w'.heap.size = w.heap.size := by
  obtain ⟨a, c, rfl, hcell⟩ := hu
  obtain ⟨c0, c2, c3, c4, f0⟩ := hst.cells
  have hf := field70 (.slice a q.length c) n s (.pointer none) ⟨_, _, _, rfl⟩
  have hu2 : (V v0).getD (.agg #[.slice none 0 0, .int .u64 0, .int .i64 0, .pointer none]) = .agg #[.slice a q.length c, n, s, .pointer none] := by rw [hV]; rfl
  have HV := hr.map
  have HC : Hid (q ≠ [] → ∃ b, b < B ∧ a = some ⟨b, 0, none⟩ ∧ ∀ j, j < q.length → w.cell? ⟨b, j, none⟩ = some (hv (q.getD j 0))) := hcell
  have HR : Hid (RngT w bv r 4 vv V left cnt) := hr
  have HST : Hid (St w B bs bv bo bw 1 O) := hst
  have HQ : Hid (∀ h ∈ q, h < 3) := hq
  clear hcell hr hst hV hq
  go_enter Yba.func30, Yba.ntmps30
  go_wp2_with (at_lookup; refine wpList_lookT _ rfl _ _ 78 rfl 70 tabV Yba.underlying78 (Yba.zeroValue70 _) bv HV rfl v0 hv0 rfl _ hu2 ?_)
  clear hu2 HV c0 c2 c3 c4 f0 hf
  go_loopw [5, 14] (fun _ i wr => ∃ k : Nat, i = .int .i64 k ∧ k ≤ q.length ∧ RngT wr bv r 4 vv V left cnt ∧ St wr B bs bv bo bw 1 (cutN O (q.take k) v0) ∧ Below B w wr ∧ NM w wr ∧ wr.heap.size = w.heap.size) (fun _ i _ => q.length - (intOf i).toNat)
  case atStart =>
    refine ⟨0, rfl, Nat.zero_le _, HR.out, ?_, Below.refl _ _, NM.refl _, rfl⟩
    obtain ⟨ob, ho⟩ := HST.out.os
    exact ⟨HST.out.c, HST.out.wt, HST.out.k, ob, ho.congr (fun k v _ _ => by simp [cutN])⟩
  case round =>
    obtain ⟨k, rfl, hk, hr, hst, hb, hnm, hsz⟩ := hrel
    have HNM : Hid (NM w wr) := hnm
    clear hnm
    clear HR HST
    by_cases hkl : k < q.length
    · have hkl2 : (k : Int) < q.length := by omega
      have hh : q.getD k 0 < 3 := HQ.out _ (by rw [List.getD_eq_getElem?_getD, List.getElem?_eq_getElem hkl]; exact List.getElem_mem hkl)
      obtain ⟨b0, hb0, rfl, hc0⟩ := HC.out (by intro e; rw [e] at hkl; simp at hkl)
      have hcell : wr.cell? ⟨b0, k, none⟩ = some (hv (q.getD k 0)) := (hb.cell (p := ⟨b0, k, none⟩) hb0).trans (hc0 k hkl)
      have HSTEP : Hid (∀ h' v', cut1 (cutN O (q.take k) v0) (q.getD k 0) v0 h' v' = cutN O (q.take (k + 1)) v0 h' v') := cutN_step O q v0 k hkl
      generalize q.getD k 0 = h at hh hcell HSTEP
      generalize cutN O (q.take k) v0 = Ok at hst HSTEP
      obtain ⟨ob, ho⟩ := hst.os
      obtain ⟨c0, c2, c3, c4, f0⟩ := hst.cells
      have hkk := hst.k
      cases hob : ob h with
      | none =>
        have hu2 : (obf ob h).getD (.map none) = .map none := by simp [obf, hob]
        have HO := ho.map
        have H0 : Hid (RngT wr bv r 4 vv V left cnt ∧ St wr B bs bv bo bw 1 Ok ∧ Below B w wr ∧ OS wr B bv bo bw Ok ob ∧ ob h = none) := ⟨hr, hst, hb, ho, hob⟩
        have HK : Hid (B ≤ bs ∧ B ≤ bv ∧ B ≤ bo ∧ B ≤ bw ∧ bv ≠ bo ∧ bw ≠ bv ∧ bw ≠ bo) := hkk
        clear hr hst hb ho hob hc0 hkk
        go_wp2_with (first
          | (at_lookup; refine wpList_lookT _ rfl _ _ 79 rfl 83 tabH Yba.underlying79 (Yba.zeroValue83 _) bo HO rfl h hh rfl _ hu2 ?_)
          | (at_len; refine wpList_lenN _ rfl _ 83 rfl 4 Yba.underlying83 rfl ?_)
          | (at_delete; refine wpList_delN _ rfl _ _ 83 rfl 4 tabV Yba.underlying83 rfl v0 hv0 rfl ?_)
          | (at_delete; refine wpList_delT _ rfl _ _ 79 rfl 83 tabH Yba.underlying79 bo HO rfl h hh rfl ?_; intro w2 hm2 ht2))
        obtain ⟨g1, g2, g3, g4, g5⟩ := H0.out
        have hs2 := g2.turned ht2 (Ne.symm HK.out.2.2.2.2.2.2) (g4.drop0 (v := v0) hh g5 ht2 hm2)
        obtain ⟨ob2, ho2⟩ := hs2.os
        exact ⟨⟨k + 1, by simp, by omega, g1.turned ht2 HK.out.2.2.2.2.1, ⟨hs2.c, hs2.wt, hs2.k, ob2, ho2.congr (fun h' v' _ _ => HSTEP.out h' v')⟩, g3.trans (turned_below ht2 HK.out.2.2.1), HNM.out.turned ht2, (turned_size ht2).trans hsz⟩, by simp [intOf]; omega⟩
      | some b =>
        have hu2 : (obf ob h).getD (.map none) = .map (some b) := by simp [obf, hob]
        obtain ⟨i1, i2, i3, i4, i5, i6⟩ := ho.inn h b hh hob
        have HO := ho.map
        have H0 : Hid (RngT wr bv r 4 vv V left cnt ∧ St wr B bs bv bo bw 1 Ok ∧ Below B w wr ∧ OS wr B bv bo bw Ok ob ∧ ob h = some b) := ⟨hr, hst, hb, ho, hob⟩
        have HK : Hid (B ≤ bs ∧ B ≤ bv ∧ B ≤ bo ∧ B ≤ bw ∧ bv ≠ bo ∧ bw ≠ bv ∧ bw ≠ bo) := hkk
        have HI : Hid (B ≤ b ∧ b ≠ bv ∧ b ≠ bo ∧ b ≠ bw) := ⟨i3, i4, i5, i6⟩
        clear hr hst hb ho hob hc0 hkk i2 i3 i4 i5 i6
        go_upto_region 4 with (first
          | (at_lookup; refine wpList_lookT _ rfl _ _ 79 rfl 83 tabH Yba.underlying79 (Yba.zeroValue83 _) bo HO rfl h hh rfl _ hu2 ?_)
          | (at_delete; refine wpList_delT _ rfl _ _ 83 rfl 4 tabV Yba.underlying83 b i1 rfl v0 hv0 rfl ?_; intro w1 hm1 ht1))
        clear HO i1 c0 c2 c3 c4 f0
        obtain ⟨g1, g2, g3, g4, g5⟩ := H0.out
        clear H0
        have c3 : w1.cell? ⟨bs, 3, none⟩ = some (.map (some bo)) := by
          have hne : bs ≠ b := fun e => by
            have := (g4.inn h b hh g5).1
            obtain ⟨es, clock, hm, _⟩ := this
            rw [← e, g2.c] at hm
            cases hm
          have := (turned_heap ht1 hne).trans g2.c
          simp [World.cell?, this]
        have HO1 : MapT w1 bo 3 hv (obf ob) := g4.map.kept (turned_heap ht1 (Ne.symm HI.out.2.2.1))
        by_cases hz : cntT 4 (upd (inf Ok h) v0 none) = 0
        · have HF : Hid (RngT wr bv r 4 vv V left cnt ∧ St wr B bs bv bo bw 1 Ok ∧ Below B w wr ∧ OS wr B bv bo bw Ok ob ∧ ob h = some b) := ⟨g1, g2, g3, g4, g5⟩
          have HT : Hid (wr.mapTurned w1 b) := ht1
          clear g1 g2 g3 g4 g5 ht1
          go_wp2_with (first
            | (at_lookup; refine wpList_lookT _ rfl _ _ 79 rfl 83 tabH Yba.underlying79 (Yba.zeroValue83 _) bo HO1 rfl h hh rfl _ hu2 ?_)
            | (at_len; refine wpList_lenT _ rfl _ 83 rfl 4 tabV Yba.underlying83 b hm1 rfl 0 hz ?_)
            | (at_delete; refine wpList_delT _ rfl _ _ 79 rfl 83 tabH Yba.underlying79 bo HO1 rfl h hh rfl ?_; intro w2 hm2 ht2))
          obtain ⟨g1, g2, g3, g4, g5⟩ := HF.out
          have hs1 : w2.heap[bs]? = wr.heap[bs]? ∧ w2.heap[bw]? = wr.heap[bw]? := by
            have ne1 : bs ≠ b := fun e => by
              obtain ⟨es, clock, hm, _⟩ := (g4.inn h b hh g5).1
              rw [← e, g2.c] at hm
              cases hm
            have ne2 : bs ≠ bo := fun e => by
              obtain ⟨es, clock, hm, _⟩ := g4.map
              rw [← e, g2.c] at hm
              cases hm
            exact ⟨(turned_heap ht2 ne2).trans (turned_heap HT.out ne1), (turned_heap ht2 HK.out.2.2.2.2.2.2).trans (turned_heap HT.out (Ne.symm HI.out.2.2.2))⟩
          exact ⟨⟨k + 1, by simp, by omega, (g1.turned HT.out (Ne.symm HI.out.2.1)).turned ht2 HK.out.2.2.2.2.1, ⟨hs1.1.trans g2.c, hs1.2.trans g2.wt, g2.k, _, (g4.drop2 hh g5 HT.out hz ht2 hm2).congr (fun h' v' _ _ => HSTEP.out h' v')⟩,
            (g3.trans (turned_below HT.out HI.out.1)).trans (turned_below ht2 HK.out.2.2.1), (HNM.out.turned HT.out).turned ht2, (turned_size ht2).trans ((turned_size HT.out).trans hsz)⟩, by simp [intOf]; omega⟩
        · have HF : Hid (RngT wr bv r 4 vv V left cnt ∧ St wr B bs bv bo bw 1 Ok ∧ Below B w wr ∧ OS wr B bv bo bw Ok ob ∧ ob h = some b) := ⟨g1, g2, g3, g4, g5⟩
          have HT : Hid (wr.mapTurned w1 b ∧ cntT 4 (upd (inf Ok h) v0 none) ≠ 0) := ⟨ht1, hz⟩
          obtain ⟨m, hm⟩ : ∃ m, cntT 4 (upd (inf Ok h) v0 none) = m := ⟨_, rfl⟩
          have hm0 : ¬ m = 0 := by rw [← hm]; exact hz
          have hm00 : ¬ ((m : Int) = 0) := by omega
          clear g1 g2 g3 g4 g5 ht1 hz
          go_wp2_with (first
            | (at_lookup; refine wpList_lookT _ rfl _ _ 79 rfl 83 tabH Yba.underlying79 (Yba.zeroValue83 _) bo HO1 rfl h hh rfl _ hu2 ?_)
            | (at_len; refine wpList_lenT _ rfl _ 83 rfl 4 tabV Yba.underlying83 b hm1 rfl m hm ?_))
          obtain ⟨g1, g2, g3, g4, g5⟩ := HF.out
          have hs2 := g2.turned HT.out.1 HI.out.2.2.2 (g4.drop1 hh g5 HT.out.1 hm1 HT.out.2)
          obtain ⟨ob2, ho2⟩ := hs2.os
          exact ⟨⟨k + 1, by simp, by omega, g1.turned HT.out.1 (Ne.symm HI.out.2.1), ⟨hs2.c, hs2.wt, hs2.k, ob2, ho2.congr (fun h' v' _ _ => HSTEP.out h' v')⟩, g3.trans (turned_below HT.out.1 HI.out.1), HNM.out.turned HT.out.1, (turned_size HT.out.1).trans hsz⟩, by simp [intOf]; omega⟩
    · obtain rfl : k = q.length := by omega
      rw [List.take_length] at hst
      obtain ⟨c0, c2, c3, c4, f0⟩ := hst.cells
      have H0 : Hid (St wr B bs bv bo bw 1 (cutN O q v0) ∧ Below B w wr) := ⟨hst, hb⟩
      clear hst hb
      go_wp2_with (at_delete; refine wpList_delR _ rfl _ _ 78 rfl 70 tabV Yba.underlying78 bv r hr rfl v0 hv0 rfl ?_; intro w2 cnt2 hr2 hle2 ht2)
      go_end0
      obtain ⟨g1, g2⟩ := H0.out
      obtain ⟨ob, ho⟩ := g1.os
      have hkk := g1.k
      exact ⟨rfl, cnt2, hle2, hr2, g1.turned ht2 (Ne.symm hkk.2.2.2.2.2.1) (ho.kept (turned_heap ht2 (Ne.symm hkk.2.2.2.2.1)) (fun k b hk hb => turned_heap ht2 (ho.inn k b hk hb).2.2.2.1)), g2.trans (turned_below ht2 hkk.2.1), HNM.out.turned ht2, (turned_size ht2).trans hsz⟩
end Go.Proofs.Ybulkbofk
