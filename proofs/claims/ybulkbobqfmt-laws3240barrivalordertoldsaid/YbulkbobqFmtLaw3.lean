/-
  LawS3240BArrivalOrder's walk.
-/
import Derived.Test.YbulkbobqFmtPlain3
namespace Go.Proofs.YbulkbobqFmt
open Go.RowKit

/-- The drawn messages in the slice that came in. -/
def Src3 (w : World) (ad : Option Addr) (ms : List (Nat × Int × Int)) : Prop :=
  (∀ r ∈ ms, r.1 < 256 ∧ (0 ≤ r.2.1 ∧ r.2.1 < 18446744073709551616) ∧ 0 ≤ r.2.2 ∧ r.2.2 < 18446744073709551616) ∧
  (ms ≠ [] → ∃ g off, ad = some ⟨g, off, none⟩ ∧ g < w.heap.size ∧ ∀ i (h : i < ms.length), w.cell? ⟨g, off + i * 3, none⟩ = some (.int .u8 ms[i].1) ∧ w.cell? ⟨g, off + i * 3 + 1, none⟩ = some (.int .u64 ms[i].2.1) ∧ w.cell? ⟨g, off + i * 3 + 2, none⟩ = some (.int .u64 ms[i].2.2))

def toMsg (n : Nat) (r : Nat × Int × Int) : Msg := { p := r.1 % n, q := r.2.1, t := r.2.2, e := none, ml := 0 }

theorem Src3.at {w W : World} {ad : Option Addr} {ms : List (Nat × Int × Int)} (h : Src3 w ad ms) (hb : Below w.heap.size w W) (i : Nat) (hi : i < ms.length) :
    ∃ g off, ad = some ⟨g, off, none⟩ ∧ W.cell? ⟨g, off + i * 3, none⟩ = some (.int .u8 ms[i].1) ∧ W.cell? ⟨g, off + i * 3 + 1, none⟩ = some (.int .u64 ms[i].2.1) ∧ W.cell? ⟨g, off + i * 3 + 2, none⟩ = some (.int .u64 ms[i].2.2) := by
  obtain ⟨g, off, rfl, hg, hc⟩ := h.2 (by intro e; rw [e] at hi; simp at hi)
  obtain ⟨c0, c1, c2⟩ := hc i hi
  exact ⟨g, off, rfl, (hb.cell hg).trans c0, (hb.cell hg).trans c1, (hb.cell hg).trans c2⟩

/-- The first i messages. -/
def Ls (n : Nat) (ms : List (Nat × Int × Int)) (i : Nat) : List Msg := (ms.take i).map (toMsg n)
theorem Ls_succ (n : Nat) (ms : List (Nat × Int × Int)) (i : Nat) (h : i < ms.length) : Ls n ms (i + 1) = Ls n ms i ++ [toMsg n ms[i]] := by
  unfold Ls
  rw [List.take_add_one, List.getElem?_eq_getElem h, List.map_append]
  rfl
theorem Ls_all (n : Nat) (ms : List (Nat × Int × Int)) : Ls n ms ms.length = ms.map (toMsg n) := by simp [Ls]
theorem Ls_length (n : Nat) (ms : List (Nat × Int × Int)) (i : Nat) (h : i ≤ ms.length) : (Ls n ms i).length = i := by simp [Ls]; omega

/-- Where the messages so far are. -/
def Got (bar : Bool) (n : Nat) (L : List Msg) (σ : PS) : Prop := if bar = true then Kept n L σ else Gone n L σ

theorem got_start (bar : Bool) (n : Nat) : Got bar n [] (σ0 n) := by
  unfold Got
  split
  · refine ⟨by simp [σ0], rfl, fun j _ => ?_, fun j => ?_, rfl⟩
    · exact q_replicate n j (σ0 n) rfl
    · simp [σ0]
  · exact ⟨rfl, rfl, rfl, rfl⟩
theorem inv_start (n : Nat) : Inv 0 (σ0 n) := by
  refine ⟨?_, rfl⟩
  show 0 = tot (List.replicate n (0, []))
  induction n with
  | zero => rfl
  | succ n ih => simp [tot, List.replicate_succ]
theorem got_step {x : Cx} {bar : Bool} {n : Nat} {L : List Msg} {σ : PS} (hx : NoWait x) (h : Got bar n L σ) (m : Msg) (hp : m.p < n) (hl : L.length < 2000) : Got bar n (L ++ [m]) (takeF x bar σ m) ∧ Room σ m := by
  unfold Got at h ⊢
  cases bar
  · simp only [Bool.false_eq_true, if_false] at h ⊢
    exact gone_step hx h m
  · simp only [if_true] at h ⊢
    exact kept_step h m hp hl

theorem plain_ok (x : Cx) (w : World) (n : Nat) (r : Nat × Int × Int) (hal : x.al = fun _ => []) (hn : x.s.n = n) (h1 : 1 ≤ n) (hr : 0 ≤ r.2.1 ∧ r.2.1 < 18446744073709551616) : MOK x w (toMsg n r) := by
  refine ⟨by rw [hal]; rfl, by simp [toMsg], ?_, by rw [hal]; simp, ?_, hr⟩
  · rw [hal]
    exact Ents.nil w none 0
  · rw [hn]
    exact Nat.mod_lt _ h1

theorem want_len (n : Nat) (ms : List (Nat × Int × Int)) (j : Nat) (h : ms.length ≤ 1024) : ((List.range j).flatMap (fun j => ((ms.map (toMsg n)).filter (fun m => m.p == j)).map Msg.pq)).length ≤ 1024 := by
  suffices hs : ∀ (L : List Msg) (j : Nat), ((List.range j).flatMap (fun j => (L.filter (fun m => m.p == j)).map Msg.pq)).length = (L.filter (fun m => decide (m.p < j))).length by
    rw [hs]
    exact Nat.le_trans (List.length_filter_le _ _) (by simpa using h)
  intro L j
  induction j with
  | zero =>
    induction L with
    | nil => rfl
    | cons m L ih => simpa using ih
  | succ j ih =>
    rw [List.range_succ, List.flatMap_append, List.length_append, ih]
    simp only [List.flatMap_cons, List.flatMap_nil, List.append_nil, List.length_map]
    clear ih
    induction L with
    | nil => rfl
    | cons m L ih =>
      simp only [List.filter_cons]
      by_cases h1 : m.p < j
      · have h2 : m.p < j + 1 := by omega
        have h3 : ¬ m.p = j := by omega
        simp [h1, h2, h3]
        omega
      · by_cases h3 : m.p = j
        · simp [h3]
          omega
        · have h2 : ¬ m.p < j + 1 := by omega
          simp [h1, h2, h3]
          omega
theorem tot_zero (qs : List (Nat × List Msg)) (h : ∀ q ∈ qs, q.2 = []) : tot qs = 0 := by
  induction qs with
  | nil => rfl
  | cons q qs ih =>
    have e1 := h q (by simp)
    have e2 := ih fun a ha => h a (by simp [ha])
    simp only [tot, List.map_cons, List.sum_cons] at e2 ⊢
    rw [e1, e2]
    rfl

/-- A store into a row of another type. -/
theorem Al.other {x : Cx} {w : World} {barred : Bool} {k : Nat} {u : Value} {ws : List (Nat × Int)} {σ : PS} {T i : Nat} {cur : Array Value} (h : Al x w barred k u ws σ) (hT : w.heap[T]? = some (.cells cur 42 (0, 0))) (hb : x.base ≤ T) (v : Value) : Al x (w.setCell ⟨T, i, none⟩ v) barred k u ws σ := by
  have hf : Fr x.base [T] [] w (w.setCell ⟨T, i, none⟩ v) := (Fr.refl _ _ _ _).setCell hT _ hb (.inl (by simp))
  have hS : Typed w [T] [42] := by
    intro g hg
    simp only [List.mem_cons, List.not_mem_nil, or_false] at hg
    subst hg
    exact ⟨_, _, _, hT, by simp⟩
  have ne : ∀ {b : Nat} {cur : Array Value} {t : TypeId}, w.heap[b]? = some (.cells cur t (0, 0)) → t ∉ [42] → b ∉ [T] := by
    intro b cur t hb ht hk
    obtain ⟨c, t', f, e, h'⟩ := hS b hk
    rw [hb] at e
    simp only [Option.some.injEq, Obj.cells.injEq] at e
    exact ht (e.2.1 ▸ h')
  obtain ⟨⟨c1, t1⟩, ⟨c2, t2⟩, ⟨c3, t3⟩, ⟨c4, t4⟩, ⟨c5, t5⟩, ⟨c6, t6⟩, ⟨c7, t7⟩⟩ := h.types
  obtain ⟨l, scr, hw⟩ := h.wk
  obtain ⟨_, ce, te, _⟩ := h.Z
  exact ⟨h.st, ⟨l, scr, hw.fr hf (hw.ok.setCell hT _ (fun e => by simp at e)) (ne t1 (by simp)) (ne t2 (by simp)) (ne t4 (by simp)) (ne t3 (by simp)) (by simp) (by simp) (by simp)⟩, h.hs, h.D.fr hf (ne t5 (by simp)) (by simp), h.dl, h.Z.fr hf (ne te (by simp)) (by simp), h.fQ hf hS (by simp) (by simp) (by simp) (by simp), h.ql, h.qb,
    h.fCb hf hS (by simp) (by simp) (by simp) (by simp), h.fTab hf, h.pos, h.fMok hf hS (by simp) (by simp), h.fLow hf⟩

theorem step_append_rec {ops : Array Oper} {o : Oper} {a : Act} {K : Act → World → Prop} {Q : Exit → Act → World → Prop} {E : Prop} (hgd : o.guard = none) (sl y : Operand)
    (ho : o.op = .call { callee := .builtin .append, args := #[sl, y], argTypes := #[25, 25] }) (x : Cx) (X : World) (g : Nat) (barred : Bool) (k : Nat) (u : Value) (ws : List (Nat × Int)) (σ : PS) (p : Nat) (q : Int) (h : Al x X barred k u ws σ) (hl : ws.length ≤ 1000000)
    (hs : a.eval sl = u) (hy : a.eval y = .slice (some ⟨g, 0, none⟩) 1 1) (hg : X.heap[g]? = some (.cells #[.int .i64 p, .int .u64 q] 34 (0, 0))) (hK : ∀ v' w', Al x w' barred k v' (ws ++ [(p, q)]) σ → K (a.put o.dst v') w') :
    if Region.wanted o (yielded ops a.tmps) = true then Oper.wp Ybaf.prog o a X K Q else E := by
  have hw : Region.wanted o (yielded ops a.tmps) = true := by simp [Region.wanted, hgd]
  rw [if_pos hw]
  exact wp_append_rec sl y ho x X g barred k u ws σ p q h hl hs hy hg hK

set_option maxRecDepth 100000 in
set_option maxHeartbeats 4000000 in
theorem law3 (a b : Nat) (bar : Bool) (ad : Option Addr) (cap : Nat) (ms : List (Nat × Int × Int)) (w : World) (ha : a < 256) (hb : b < 256) (hT : Tab w) (hms : Src3 w ad ms) :
    Calls Ybaf.prog 3 #[.int .u8 a, .int .u8 b, .bool bar, .slice ad ms.length cap] w fun e w' => e = .returned (.bool true) ∧ Below w.heap.size w w' := by
  have hpos : 0 < w.heap.size := World.block_lt_of_cell? _ _ (hT 0 (by omega))
  have hlog : LogOK w.heap.size w := by
    intro g cur fr hg hh
    have := (Array.getElem?_eq_some_iff.1 hh).1
    omega
  by_cases hl : 1024 < ms.length
  · have hl2 : (1024 : Int) < (ms.length : Nat) := by omega
    clear hms hT hlog
    go_enter Ybaf.func3, Ybaf.ntmps3
    go_wp2
    go_ret
    exact ⟨rfl, Below.refl _ _⟩
  obtain ⟨n, hn1, hn8, ek⟩ : ∃ n : Nat, 1 ≤ n ∧ n ≤ 8 ∧ 1 + (a : Int) % 8 = n := ⟨1 + a % 8, by omega, by omega, by omega⟩
  obtain ⟨me, hme, en⟩ : ∃ me : Nat, me < n ∧ (b : Int) % (n : Int) = me := ⟨b % n, Nat.mod_lt _ (by omega), by simp⟩
  have hl2 : ¬ ((1024 : Int) < (ms.length : Nat)) := by omega
  have HMS : Hid (Src3 w ad ms) := hms
  clear hms
  go_enter Ybaf.func3, Ybaf.ntmps3
  go_wp2_with fail
  refine (new_any w.heap.size n me (by omega) hn8 hme w (Nat.le_refl _) hlog).mono ?_
  rintro e W1 ⟨rfl, ⟨s, s1, s2, s3⟩, hf⟩
  clear ek en hl2
  have HS : Hid (s.self = me ∧ s.n = n ∧ Fresh w.heap.size w.heap.size s W1 false ∧ Fr w.heap.size [] [] w W1) := ⟨s1, s2, s3, hf⟩
  clear s1 s2 s3 hf
  go_upto_if 41 with fail
  obtain ⟨x, hx⟩ : ∃ x : Cx, x = { base := w.heap.size, O := w.heap.size, C := W1.heap.size, s := s, fifo := false, al := fun _ => [], w0 := w } := ⟨_, rfl⟩
  have HA0 : Hid (Al x (W1.alloc (.cells #[.slice none 0 0] 25)) false (σ0 n).rs.length (.slice none 0 0) [] (σ0 n)) := by
    obtain ⟨s1, s2, s3, hf⟩ := HS.out
    have hfW : Fr w.heap.size [] [] W1 (W1.alloc (.cells #[.slice none 0 0] 25)) := (Fr.refl _ _ _ _).alloc _
    have := Al.start x (W1.alloc (.cells #[.slice none 0 0] 25)) (by rw [hx]; exact s3.fr hfW (fun hl => hl.alloc _ _ (fun e => by simp at e))) (by rw [hx]; exact heap_alloc_new W1 _) (by rw [hx]; exact hf.size) (hT.fr (hf.trans hfW) hpos hpos) (by rw [hx]; exact hpos) (by rw [hx]; exact (hf.trans hfW).below (Nat.le_refl _) (Nat.le_refl _))
    have e : x.s.n = n := by rw [hx]; exact s2
    rw [e] at this
    exact this
  have HX : Hid (x.fifo = false ∧ x.s.n = n ∧ x.al = (fun _ => []) ∧ NoWait x ∧ x.base = w.heap.size ∧ x.w0 = w) := by
    obtain ⟨_, s2, _⟩ := HS.out
    refine ⟨by rw [hx], by rw [hx]; exact s2, by rw [hx], fun σ m => ?_, by rw [hx], by rw [hx]⟩
    unfold may deliverableB
    rw [hx]
    rfl
  have hxO : x.O = w.heap.size := by rw [hx]
  have hxC : x.C = W1.heap.size := by rw [hx]
  rw [← hxO, ← hxC]
  generalize W1.alloc (.cells #[.slice none 0 0] 25) = W2 at HA0 ⊢
  clear hx HS hT hlog hxO hxC
  go_cut [] from 42 to 43 (fun wd => Al x wd bar (σ0 n).rs.length (.slice none 0 0) [] (σ0 n))
  case first =>
    cases bar
    · go_wp2
      go_meet
      exact HA0.out
    · go_wp2_with fail
      refine (hold7_any x W2 _ _ _ _ HA0.out).mono ?_
      rintro e W3 ⟨rfl, hA3⟩
      have HA3 : Hid (Al x W3 true (σ0 n).rs.length (.slice none 0 0) [] (σ0 n)) := hA3
      clear hA3
      go_wp2
      go_meet
      exact HA3.out
  case rest =>
  have HA1 : Hid (Al x wc bar (σ0 n).rs.length (.slice none 0 0) [] (σ0 n)) := hcut
  clear hcut HA0
  go_wp2_with fail
  go_loopw [46] (fun i wr => ∃ (j : Nat) (σ : PS), i = .int .i64 j ∧ j ≤ ms.length ∧ Al x wr bar σ.rs.length (.slice none 0 0) [] σ ∧ Inv j σ ∧ Got bar n (Ls n ms j) σ) (fun i _ => ms.length - (intOf i).toNat)
  case atStart => exact ⟨0, σ0 n, rfl, Nat.zero_le _, HA1.out, inv_start n, got_start bar n⟩
  case round =>
    obtain ⟨j, σ, rfl, hj, hA, hI, hG⟩ := hrel
    have HA : Hid (Al x wr bar σ.rs.length (.slice none 0 0) [] σ) := hA
    have HI : Hid (Inv j σ ∧ Got bar n (Ls n ms j) σ) := ⟨hI, hG⟩
    have HL : Hid (Below w.heap.size w wr) := by
      have := hA.low
      rw [HX.out.2.2.2.2.1, HX.out.2.2.2.2.2] at this
      exact this
    clear hA hI hG HA1
    by_cases hjl : j < ms.length
    · obtain ⟨g, off, rfl, c0, c1, c2⟩ := HMS.out.at HL.out j hjl
      obtain ⟨hr1, hr2, hr3⟩ := HMS.out.1 ms[j] (List.getElem_mem hjl)
      obtain ⟨hg2, hroom⟩ := got_step HX.out.2.2.2.1 HI.out.2 (toMsg n ms[j]) (Nat.mod_lt _ (by omega)) (by rw [Ls_length _ _ _ hj]; omega)
      have hok : ∀ W, MOK x W (toMsg n ms[j]) := fun W => plain_ok x W n ms[j] HX.out.2.2.1 HX.out.2.1 hn1 hr2
      have HG2 : Hid (Got bar n (Ls n ms (j + 1)) (takeF x bar σ (toMsg n ms[j]))) := by rw [Ls_succ _ _ _ hjl]; exact hg2
      have hcall : ∀ W, Al x W bar σ.rs.length (.slice none 0 0) [] σ → Calls Ybaf.prog 8 #[.pointer (some ⟨x.O, 0, none⟩), .agg (toMsg n ms[j]).arr, .func (.func 6) #[] #[.pointer (some ⟨x.C, 0, none⟩)]] W fun e w' => e = .returned (.tuple #[]) ∧ Al x w' bar (takeF x bar σ (toMsg n ms[j])).rs.length (.slice none 0 0) [] (takeF x bar σ (toMsg n ms[j])) ∧ Inv (j + 1) (takeF x bar σ (toMsg n ms[j])) :=
        fun W hW => take_any x 6 j (.slice none 0 0) [] (back6 _ _ _) W bar σ _ hW HI.out.1 (by omega) (hok W) hroom
      clear hg2 hroom hok
      generalize hm : toMsg n ms[j] = m at hcall HG2
      obtain ⟨p, hp⟩ : ∃ p : Nat, p = ms[j].1 % n := ⟨_, rfl⟩
      have hme : m.arr = #[.int .i64 p, .int .u64 ms[j].2.1, .int .u64 ms[j].2.2, .slice none 0 0, .int .u64 0, .slice none 0 0, .slice none 0 0, .bool false] := by rw [← hm, hp]; rfl
      rw [hme] at hcall
      have en : ((ms[j].1 : Nat) : Int) % (n : Int) = p := by rw [hp]; simp
      generalize takeF x bar σ m = σ' at hcall HG2
      generalize ms[j].1 = z0 at c0 en hr1 hme
      generalize ms[j].2.1 = z1 at c1 hcall hme
      generalize ms[j].2.2 = z2 at c2 hcall hme
      clear hm hp hme
      go_upto_region 13 with fail
      have hA2 : Al x (wr.alloc (.cells #[.int .u8 z0, .int .u64 z1, .int .u64 z2] 37)) bar σ.rs.length (.slice none 0 0) [] σ := HA.out.alloc _ _ (by simp)
      have hX : (wr.alloc (.cells #[.int .u8 z0, .int .u64 z1, .int .u64 z2] 37)).heap[wr.heap.size]? = some (.cells #[.int .u8 z0, .int .u64 z1, .int .u64 z2] 37 (0, 0)) := heap_alloc_new wr _
      generalize wr.alloc (.cells #[.int .u8 z0, .int .u64 z1, .int .u64 z2] 37) = W3 at hA2 hX ⊢
      generalize wr.heap.size = X at hX ⊢
      have x0 : W3.cell? ⟨X, 0, none⟩ = some (.int .u8 z0) := by simp [World.cell?, hX]
      have x1 : W3.cell? ⟨X, 1, none⟩ = some (.int .u64 z1) := by simp [World.cell?, hX]
      have x2 : W3.cell? ⟨X, 2, none⟩ = some (.int .u64 z2) := by simp [World.cell?, hX]
      have hc := hcall W3.drew hA2.drew
      clear c0 c1 c2 hcall hX hA2 HA
      go_region_with (go_at_call 8; refine hc.mono ?_; rintro e w9 ⟨rfl, hA9, hI9⟩)
      all_goals
        have HA4 : Hid (Al x w9 bar σ'.rs.length (.slice none 0 0) [] σ' ∧ Inv (j + 1) σ') := ⟨hA9, hI9⟩
        clear hA9 hI9
        go_wp2
        go_roundw
        case rel => exact ⟨j + 1, σ', by simp, by omega, HA4.out.1, HA4.out.2, HG2.out⟩
        case measure => simp [intOf]; omega
    · obtain rfl : j = ms.length := by omega
      have HG : Hid (Got bar n (ms.map (toMsg n)) σ) := by
        have := HI.out.2
        rw [Ls_all] at this
        exact this
      clear hjl hj
      go_upto_if 64 with fail
      go_cut [16] from 65 to 121 (fun u wd => ∃ σ2 : PS, Al x wd false σ2.rs.length u σ2.rs σ2 ∧ σ2.hold = 0 ∧ σ2.ds = appl n σ2.rs ∧ σ2.rs.length ≤ 1024 ∧ ∀ r ∈ σ2.rs, r.1 < n)
      case first =>
        cases bar
        · have HG2 : Hid (Gone n (ms.map (toMsg n)) σ) := HG.out
          clear HG
          go_wp2_with fail
          go_loopw [16, 106] (fun u i wr => ∃ (j : Nat) (uu : Value), uu = u ∧ i = .int .i64 j ∧ j ≤ ms.length ∧ Al x wr false σ.rs.length uu ((Ls n ms j).map Msg.pq) σ) (fun _ i _ => ms.length - (intOf i).toNat)
          case atStart => exact ⟨0, _, rfl, rfl, Nat.zero_le _, HA.out⟩
          case round =>
            obtain ⟨j, uu, rfl, rfl, hj, hA⟩ := hrel
            have HA4 : Hid (Al x wr false σ.rs.length uu ((Ls n ms j).map Msg.pq) σ) := hA
            have HL4 : Hid (Below w.heap.size w wr) := by
              have := hA.low
              rw [HX.out.2.2.2.2.1, HX.out.2.2.2.2.2] at this
              exact this
            clear hA
            by_cases hjl : j < ms.length
            · obtain ⟨g, off, rfl, c0, c1, c2⟩ := HMS.out.at HL4.out j hjl
              obtain ⟨hr1, hr2, hr3⟩ := HMS.out.1 ms[j] (List.getElem_mem hjl)
              obtain ⟨p, hp⟩ : ∃ p : Nat, p = ms[j].1 % n := ⟨_, rfl⟩
              have en : ((ms[j].1 : Nat) : Int) % (n : Int) = p := by rw [hp]; simp
              have HE : Hid ((Ls n ms (j + 1)).map Msg.pq = (Ls n ms j).map Msg.pq ++ [(p, ms[j].2.1)]) := by
                unfold Hid
                rw [Ls_succ _ _ _ hjl, List.map_append, hp]
                rfl
              generalize ms[j].1 = z0 at c0 en hr1 hp
              generalize ms[j].2.1 = z1 at c1 HE hr2
              generalize ms[j].2.2 = z2 at c2
              clear hp
              go_upto_region 32 with fail
              have hA5 : Al x (wr.alloc (.cells #[.int .u8 z0, .int .u64 z1, .int .u64 z2] 37)) false σ.rs.length uu ((Ls n ms j).map Msg.pq) σ := HA4.out.alloc _ _ (by simp)
              have hX : (wr.alloc (.cells #[.int .u8 z0, .int .u64 z1, .int .u64 z2] 37)).heap[wr.heap.size]? = some (.cells #[.int .u8 z0, .int .u64 z1, .int .u64 z2] 37 (0, 0)) := heap_alloc_new wr _
              generalize wr.alloc (.cells #[.int .u8 z0, .int .u64 z1, .int .u64 z2] 37) = W3 at hA5 hX ⊢
              generalize wr.heap.size = X at hX ⊢
              have x0 : W3.cell? ⟨X, 0, none⟩ = some (.int .u8 z0) := by simp [World.cell?, hX]
              have x1 : W3.cell? ⟨X, 1, none⟩ = some (.int .u64 z1) := by simp [World.cell?, hX]
              have HA5 : Hid (Al x W3 false σ.rs.length uu ((Ls n ms j).map Msg.pq) σ) := hA5
              clear c0 c1 c2 hX hA5 HA4
              have hn0 : ¬ n = 0 := by omega
              have en3 : (IntKind.i64.wrap (z0 : Int)).tmod (n : Int) = p := by
                rw [show IntKind.i64.wrap (z0 : Int) = z0 from by rw [IntKind.wrap_i64]; omega, Int.tmod_eq_emod_of_nonneg (by omega)]
                exact en
              have hll : ((Ls n ms j).map Msg.pq).length ≤ 1000000 := by rw [List.length_map, Ls_length _ _ _ hj]; omega
              have hA6 : Al x (W3.alloc (.cells #[.int .i64 p, .int .u64 z1] 34)).drew false σ.rs.length uu ((Ls n ms j).map Msg.pq) σ := (HA5.out.alloc _ _ (by simp)).drew
              have hg6 : (W3.alloc (.cells #[.int .i64 p, .int .u64 z1] 34)).drew.heap[W3.heap.size]? = some (.cells #[.int .i64 p, .int .u64 z1] 34 (0, 0)) := heap_alloc_new W3 _
              go_region_law (refine step_append_rec rfl (.tmp 110) (.tmp 119) rfl x _ W3.heap.size false σ.rs.length uu ((Ls n ms j).map Msg.pq) σ p z1 hA6 hll rfl rfl hg6 ?_; intro v' w9 hA9)
              all_goals
                have HA9 : Hid (Al x w9 false σ.rs.length v' ((Ls n ms (j + 1)).map Msg.pq) σ) := by rw [HE.out]; exact hA9
                clear hA9
                go_wp2
                go_roundw
                case rel => exact ⟨j + 1, _, rfl, by simp, by omega, HA9.out⟩
                case measure => simp [intOf]; omega
            · obtain rfl : j = ms.length := by omega
              have HF : Hid (∃ σ2 : PS, Al x wr false σ2.rs.length uu σ2.rs σ2 ∧ σ2.hold = 0 ∧ σ2.ds = appl n σ2.rs ∧ σ2.rs.length ≤ 1024 ∧ ∀ r ∈ σ2.rs, r.1 < n) := by
                obtain ⟨o1, o2, o3, o4⟩ := HG2.out
                have hA := HA4.out
                rw [Ls_all, ← o3] at hA
                refine ⟨σ, hA, o1, o4, ?_, fun r hr => ?_⟩
                · rw [o3]; simp; omega
                · rw [o3] at hr
                  simp only [List.mem_map] at hr
                  obtain ⟨m, ⟨z, _, rfl⟩, rfl⟩ := hr
                  exact Nat.mod_lt _ hn1
              clear hjl hj
              go_wp2
              go_meet
              exact HF.out
        · have HG2 : Hid (Kept n (ms.map (toMsg n)) σ) := HG.out
          clear HG
          obtain ⟨v, hC, hrec, _⟩ := HA.out.cb
          have hrs : σ.rs = [] := HG2.out.2.1
          have hholdE : σ.hold = ms.length := by
            have := HI.out.1.2
            rw [hrs] at this
            simpa using this
          have cC : wr.cell? ⟨x.C, 0, none⟩ = some v := by simp [World.cell?, hC]
          obtain ⟨va, vc, hv⟩ := hrec.form
          rw [hrs] at hv
          subst hv
          simp only [List.length_nil] at cC
          obtain ⟨l2, scr2, ho2⟩ := HA.out.ob
          have hheld := held_any ho2
          rw [hholdE] at hheld
          have HR : Hid (Inv ms.length σ) := HI.out.1
          clear ho2 hC hrec hrs hholdE
          go_wp2_with fail
          refine hheld.mono ?_
          rintro e w5 ⟨rfl, rfl⟩
          go_wp2_with fail
          refine (release10_any x 6 ms.length _ [] (back6 _ _ _) _ σ HA.out HR.out (by omega)).mono ?_
          rintro e W6 ⟨rfl, hS6⟩
          have HK : Hid ((rel x σ).rs = (List.range n).flatMap (fun j => ((ms.map (toMsg n)).filter (fun m => m.p == j)).map Msg.pq) ∧ (∀ j, j < n → ((rel x σ).q j).2 = []) ∧ (rel x σ).ds = appl n (rel x σ).rs) := rel_kept HX.out.2.2.2.1 hn8 HG2.out (by have := HA.out.hs; rw [HX.out.2.1] at this; exact this)
          have HS6 : Hid (St x (.slice none 0 0) [] ms.length W6 (rel x σ)) := hS6
          clear hS6 cC hheld
          generalize rel x σ = σ6 at HK HS6
          go_wp2_with fail
          go_loopw [16, 17] (fun u i wr => ∃ (j : Nat) (uu : Value), uu = u ∧ i = .int .i64 j ∧ j ≤ n ∧ Al x wr false σ6.rs.length uu ((List.range j).flatMap (fun j => ((ms.map (toMsg n)).filter (fun m => m.p == j)).map Msg.pq)) σ6) (fun _ i _ => n - (intOf i).toNat)
          case atStart => exact ⟨0, _, rfl, rfl, Nat.zero_le _, HS6.out.1⟩
          case round =>
            obtain ⟨j, uu, rfl, rfl, hj, hA⟩ := hrel
            have HA7 : Hid (Al x wr false σ6.rs.length uu ((List.range j).flatMap (fun j => ((ms.map (toMsg n)).filter (fun m => m.p == j)).map Msg.pq)) σ6) := hA
            clear hA
            by_cases hjn : j < n
            · obtain ⟨pre, hpre⟩ : ∃ pre, pre = (List.range j).flatMap (fun j => ((ms.map (toMsg n)).filter (fun m => m.p == j)).map Msg.pq) := ⟨_, rfl⟩
              rw [← hpre] at HA7
              have HPre : Hid ((List.range (j + 1)).flatMap (fun j => ((ms.map (toMsg n)).filter (fun m => m.p == j)).map Msg.pq) = pre ++ ((ms.map (toMsg n)).filter (fun m => m.p == j)).map Msg.pq) := by
                unfold Hid
                rw [List.range_succ, List.flatMap_append, hpre]
                simp
              have hprel : pre.length ≤ 1024 := by
                rw [hpre]
                exact want_len n ms j (by omega)
              clear hpre
              go_wp2_with fail
              go_loopw [16, 85] (fun u i wr => ∃ (i' : Nat) (uu2 : Value), uu2 = u ∧ i = .int .i64 i' ∧ i' ≤ ms.length ∧ Al x wr false σ6.rs.length uu2 (pre ++ ((Ls n ms i').filter (fun m => m.p == j)).map Msg.pq) σ6) (fun _ i _ => ms.length - (intOf i).toNat)
              case atStart => exact ⟨0, _, rfl, rfl, Nat.zero_le _, by simpa [Ls] using HA7.out⟩
              case round =>
                obtain ⟨i', uu2, rfl, rfl, hi', hA⟩ := hrel
                have HA8 : Hid (Al x wr false σ6.rs.length uu2 (pre ++ ((Ls n ms i').filter (fun m => m.p == j)).map Msg.pq) σ6) := hA
                have HL8 : Hid (Below w.heap.size w wr) := by
                  have := hA.low
                  rw [HX.out.2.2.2.2.1, HX.out.2.2.2.2.2] at this
                  exact this
                clear hA HA7
                by_cases hil : i' < ms.length
                · obtain ⟨g, off, rfl, c0, c1, c2⟩ := HMS.out.at HL8.out i' hil
                  obtain ⟨hr1, hr2, hr3⟩ := HMS.out.1 ms[i'] (List.getElem_mem hil)
                  obtain ⟨p, hp⟩ : ∃ p : Nat, p = ms[i'].1 % n := ⟨_, rfl⟩
                  have en : ((ms[i'].1 : Nat) : Int) % (n : Int) = p := by rw [hp]; simp
                  have HE : Hid (((Ls n ms (i' + 1)).filter (fun m => m.p == j)).map Msg.pq = ((Ls n ms i').filter (fun m => m.p == j)).map Msg.pq ++ (if p = j then [(p, ms[i'].2.1)] else [])) := by
                    unfold Hid
                    rw [Ls_succ _ _ _ hil, List.filter_append, List.map_append]
                    congr 1
                    rw [hp]
                    by_cases e : ms[i'].1 % n = j
                    · rw [if_pos e]
                      simp [toMsg, e, Msg.pq]
                    · rw [if_neg e]
                      simp [toMsg, e]
                  have hll : (pre ++ ((Ls n ms i').filter (fun m => m.p == j)).map Msg.pq).length ≤ 1000000 := by
                    have h1 := List.length_filter_le (fun m : Msg => m.p == j) (Ls n ms i')
                    rw [Ls_length _ _ _ hi'] at h1
                    simp only [List.length_append, List.length_map]
                    omega
                  have hn0 : ¬ n = 0 := by omega
                  generalize ms[i'].1 = z0 at c0 en hr1 hp
                  generalize ms[i'].2.1 = z1 at c1 HE hr2
                  generalize ms[i'].2.2 = z2 at c2
                  clear hp
                  by_cases hpj : p = j
                  · subst hpj
                    go_upto_region 26 with fail
                    have hA5 : Al x (wr.alloc (.cells #[.int .u8 z0, .int .u64 z1, .int .u64 z2] 37)) false σ6.rs.length uu2 (pre ++ ((Ls n ms i').filter (fun m => m.p == p)).map Msg.pq) σ6 := HA8.out.alloc _ _ (by simp)
                    have hX : (wr.alloc (.cells #[.int .u8 z0, .int .u64 z1, .int .u64 z2] 37)).heap[wr.heap.size]? = some (.cells #[.int .u8 z0, .int .u64 z1, .int .u64 z2] 37 (0, 0)) := heap_alloc_new wr _
                    generalize wr.alloc (.cells #[.int .u8 z0, .int .u64 z1, .int .u64 z2] 37) = W3 at hA5 hX ⊢
                    generalize wr.heap.size = X at hX ⊢
                    have x0 : W3.cell? ⟨X, 0, none⟩ = some (.int .u8 z0) := by simp [World.cell?, hX]
                    have x1 : W3.cell? ⟨X, 1, none⟩ = some (.int .u64 z1) := by simp [World.cell?, hX]
                    have HA5 : Hid (Al x W3 false σ6.rs.length uu2 (pre ++ ((Ls n ms i').filter (fun m => m.p == p)).map Msg.pq) σ6) := hA5
                    clear c0 c1 c2 hX hA5 HA8
                    go_wp2_with (first | (at_builtin; refine wpList_append_rec rfl (.tmp 96) (.tmp 101) rfl x W3 false _ uu2 (pre ++ ((Ls n ms i').filter (fun m => m.p == p)).map Msg.pq) σ6 p z1 HA5.out hll rfl rfl ?_))
                    intro v' w9 hA9
                    have HA9 : Hid (∃ ws, ws = pre ++ ((Ls n ms (i' + 1)).filter (fun m => m.p == p)).map Msg.pq ∧ Al x w9 false σ6.rs.length v' ws σ6) := ⟨_, by rw [HE.out]; simp, hA9⟩
                    clear hA9
                    go_wp2
                    go_roundw
                    case rel =>
                      obtain ⟨ws, rfl, h9⟩ := HA9.out
                      exact ⟨i' + 1, _, rfl, by simp, by omega, h9⟩
                    case measure => simp [intOf]; omega
                  · have hpj2 : ¬ ((p : Int) = (j : Int)) := by omega
                    go_upto_region 26 with fail
                    have hA5 : Al x (wr.alloc (.cells #[.int .u8 z0, .int .u64 z1, .int .u64 z2] 37)) false σ6.rs.length uu2 (pre ++ ((Ls n ms i').filter (fun m => m.p == j)).map Msg.pq) σ6 := HA8.out.alloc _ _ (by simp)
                    have hX : (wr.alloc (.cells #[.int .u8 z0, .int .u64 z1, .int .u64 z2] 37)).heap[wr.heap.size]? = some (.cells #[.int .u8 z0, .int .u64 z1, .int .u64 z2] 37 (0, 0)) := heap_alloc_new wr _
                    generalize wr.alloc (.cells #[.int .u8 z0, .int .u64 z1, .int .u64 z2] 37) = W3 at hA5 hX ⊢
                    generalize wr.heap.size = X at hX ⊢
                    have x0 : W3.cell? ⟨X, 0, none⟩ = some (.int .u8 z0) := by simp [World.cell?, hX]
                    have x1 : W3.cell? ⟨X, 1, none⟩ = some (.int .u64 z1) := by simp [World.cell?, hX]
                    have HA5 : Hid (Al x W3 false σ6.rs.length uu2 (pre ++ ((Ls n ms i').filter (fun m => m.p == j)).map Msg.pq) σ6) := hA5
                    clear c0 c1 c2 hX hA5 HA8
                    have HA9 : Hid (∃ ws, ws = pre ++ ((Ls n ms (i' + 1)).filter (fun m => m.p == j)).map Msg.pq ∧ Al x W3 false σ6.rs.length uu2 ws σ6) := ⟨_, by rw [HE.out, if_neg hpj]; simp, HA5.out⟩
                    clear HA5
                    go_wp2
                    go_roundw
                    case rel =>
                      obtain ⟨ws, rfl, h9⟩ := HA9.out
                      exact ⟨i' + 1, _, rfl, by simp, by omega, h9⟩
                    case measure => simp [intOf]; omega
                · obtain rfl : i' = ms.length := by omega
                  have HA9 : Hid (∃ ws, ws = (List.range (j + 1)).flatMap (fun j => ((ms.map (toMsg n)).filter (fun m => m.p == j)).map Msg.pq) ∧ Al x wr false σ6.rs.length uu2 ws σ6) := by
                    refine ⟨_, ?_, HA8.out⟩
                    rw [HPre.out, Ls_all]
                  clear HA8 hil hi'
                  go_wp2
                  go_roundw
                  case rel =>
                    obtain ⟨ws, rfl, h9⟩ := HA9.out
                    exact ⟨j + 1, _, rfl, by simp, by omega, h9⟩
                  case measure => simp [intOf]; omega
            · obtain rfl : j = n := by omega
              have HF : Hid (∃ σ2 : PS, Al x wr false σ2.rs.length uu σ2.rs σ2 ∧ σ2.hold = 0 ∧ σ2.ds = appl j σ2.rs ∧ σ2.rs.length ≤ 1024 ∧ ∀ r ∈ σ2.rs, r.1 < j) := by
                obtain ⟨o1, o2, o3⟩ := HK.out
                have hA := HA7.out
                rw [← o1] at hA
                obtain ⟨i1, i2⟩ := HS6.out.2
                refine ⟨σ6, hA, ?_, o3, by omega, fun r hr => ?_⟩
                · rw [i1]
                  refine tot_zero _ fun q hq => ?_
                  obtain ⟨t, ht, rfl⟩ := List.getElem_of_mem hq
                  have e := hA.ql
                  rw [HX.out.2.1] at e
                  rw [← σ6.q_eq t ht]
                  exact o2 t (by omega)
                · rw [o1] at hr
                  simp only [List.mem_flatMap, List.mem_map, List.mem_filter] at hr
                  obtain ⟨t, _, m, ⟨⟨z, _, rfl⟩, _⟩, rfl⟩ := hr
                  exact Nat.mod_lt _ hn1
              clear hjn hj
              go_wp2
              go_meet
              exact HF.out
      case rest =>
      obtain ⟨σ2, hA2, hh2, hd2, hl2, hr2⟩ := hcut
      have HA2 : Hid (Al x wc false σ2.rs.length u16 σ2.rs σ2) := hA2
      have HR2 : Hid (σ2.ds = appl n σ2.rs ∧ ∀ r ∈ σ2.rs, r.1 < n) := ⟨hd2, hr2⟩
      obtain ⟨v, hC, hrec, _, hwant, _⟩ := hA2.cb
      have cC : wc.cell? ⟨x.C, 0, none⟩ = some v := by simp [World.cell?, hC]
      have heq := equal_any x.base v u16 σ2.rs wc hrec hwant (by omega)
      obtain ⟨ua, uc, hu⟩ := hwant.form
      subst hu
      have hheld : ∀ q, Calls Ybaf.prog 9 #[.pointer (some ⟨x.O, 0, none⟩)] (wc.drewN q) fun e w' => e = .returned (.int .i64 0) ∧ w' = wc.drewN q := by
        intro q
        obtain ⟨l2, scr2, ho2⟩ := (hA2.drewN q).ob
        have := held_any ho2
        rw [hh2] at this
        exact this
      clear hA2 hh2 hd2 hr2 hC hrec hwant HA HI HG HL
      go_wp2_with fail
      refine heq.mono ?_
      rintro e W7 ⟨rfl, q, rfl⟩
      go_wp2_with fail
      refine (hheld q).mono ?_
      rintro e W7 ⟨rfl, rfl⟩
      have HA3 : Hid (Al x (wc.drewN q) false σ2.rs.length (.slice ua σ2.rs.length uc) σ2.rs σ2) := HA2.out.drewN q
      clear heq cC hheld HA2
      generalize wc.drewN q = W7 at HA3 ⊢
      go_wp2_with fail
      obtain ⟨T, hTe⟩ : ∃ T, T = W7.heap.size := ⟨_, rfl⟩
      have HA4 : Hid (Al x (W7.alloc (.cells #[.int .u64 0, .int .u64 0, .int .u64 0, .int .u64 0, .int .u64 0, .int .u64 0, .int .u64 0, .int .u64 0] 42)) false σ2.rs.length (.slice ua σ2.rs.length uc) σ2.rs σ2 ∧ (W7.alloc (.cells #[.int .u64 0, .int .u64 0, .int .u64 0, .int .u64 0, .int .u64 0, .int .u64 0, .int .u64 0, .int .u64 0] 42)).heap[T]? = some (.cells ((appl 8 (σ2.rs.take 0)).map (Value.int .u64)).toArray 42 (0, 0)) ∧ x.base ≤ T) := by
        refine ⟨HA3.out.alloc _ _ (by simp), ?_, by rw [hTe]; exact HA3.out.size⟩
        rw [hTe]
        exact heap_alloc_new W7 _
      rw [← hTe]
      generalize W7.alloc (.cells #[.int .u64 0, .int .u64 0, .int .u64 0, .int .u64 0, .int .u64 0, .int .u64 0, .int .u64 0, .int .u64 0] 42) = W8 at HA4 ⊢
      clear hTe HA3
      go_loopw [133] (fun i wr => ∃ j : Nat, i = .int .i64 j ∧ j ≤ σ2.rs.length ∧ Al x wr false σ2.rs.length (.slice ua σ2.rs.length uc) σ2.rs σ2 ∧ wr.heap[T]? = some (.cells ((appl 8 (σ2.rs.take j)).map (Value.int .u64)).toArray 42 (0, 0))) (fun i _ => σ2.rs.length - (intOf i).toNat)
      case atStart => exact ⟨0, rfl, Nat.zero_le _, HA4.out.1, HA4.out.2.1⟩
      case round =>
        obtain ⟨j, rfl, hj, hA, hTb⟩ := hrel
        have HA5 : Hid (Al x wr false σ2.rs.length (.slice ua σ2.rs.length uc) σ2.rs σ2) := hA
        by_cases hjl : j < σ2.rs.length
        · obtain ⟨_, _, _, _, hwant, _⟩ := hA.cb
          obtain ⟨g, c, e1, e2, c0, c1⟩ := hwant.at j hjl
          simp only [Value.slice.injEq, true_and] at e1
          obtain ⟨rfl, rfl⟩ := e1
          have hs8 : σ2.rs[j].1 < n := HR2.out.2 _ (List.getElem_mem hjl)
          have HE : Hid (appl 8 (σ2.rs.take (j + 1)) = (appl 8 (σ2.rs.take j)).set σ2.rs[j].1 σ2.rs[j].2) := by
            unfold Hid
            rw [List.take_add_one, List.getElem?_eq_getElem hjl]
            exact appl_snoc 8 _ _
          generalize σ2.rs[j].1 = z0 at c0 hs8 HE
          generalize σ2.rs[j].2 = z1 at c1 HE
          clear hwant hA
          go_upto_region 40 with fail
          have hA6 : Al x (wr.alloc (.cells #[.int .i64 z0, .int .u64 z1] 34)) false σ2.rs.length (.slice (some ⟨g, 0, none⟩) σ2.rs.length uc) σ2.rs σ2 := HA5.out.alloc _ _ (by simp)
          have hX : (wr.alloc (.cells #[.int .i64 z0, .int .u64 z1] 34)).heap[wr.heap.size]? = some (.cells #[.int .i64 z0, .int .u64 z1] 34 (0, 0)) := heap_alloc_new wr _
          have hT6 : (wr.alloc (.cells #[.int .i64 z0, .int .u64 z1] 34)).heap[T]? = some (.cells ((appl 8 (σ2.rs.take j)).map (Value.int .u64)).toArray 42 (0, 0)) := (Below.heap_alloc _ _ _ (Array.getElem?_eq_some_iff.1 hTb).1).trans hTb
          generalize wr.alloc (.cells #[.int .i64 z0, .int .u64 z1] 34) = W9 at hA6 hX hT6 ⊢
          generalize wr.heap.size = X at hX ⊢
          have x0 : W9.cell? ⟨X, 0, none⟩ = some (.int .i64 z0) := by simp [World.cell?, hX]
          have x1 : W9.cell? ⟨X, 1, none⟩ = some (.int .u64 z1) := by simp [World.cell?, hX]
          have hz8 : z0 < 8 := by omega
          have tc : ∃ y, W9.cell? ⟨T, z0, none⟩ = some y := by
            have hlen : z0 < (appl 8 (σ2.rs.take j)).length := by rw [appl_length]; exact hz8
            refine ⟨.int .u64 ((appl 8 (σ2.rs.take j))[z0]'hlen), ?_⟩
            simp only [World.cell?, hT6]
            simp [hlen]
          obtain ⟨y, tc⟩ := tc
          have tf : W9.frozen? ⟨T, z0, none⟩ = false := by simp [World.frozen?, hT6]
          have HA7 : Hid (Al x (W9.setCell ⟨T, z0, none⟩ (.int .u64 z1)) false σ2.rs.length (.slice (some ⟨g, 0, none⟩) σ2.rs.length uc) σ2.rs σ2 ∧ (W9.setCell ⟨T, z0, none⟩ (.int .u64 z1)).heap[T]? = some (.cells ((appl 8 (σ2.rs.take (j + 1))).map (Value.int .u64)).toArray 42 (0, 0))) := by
            refine ⟨hA6.other hT6 HA4.out.2.2 _, ?_⟩
            rw [setCell_eq_setRow W9 T z0 _ 42 (0, 0) _ hT6, setRow_heap W9 T _ _ _ _ hT6, HE.out]
            simp
          clear hA6 hX hT6 hTb c0 c1 HA5
          go_wp2
          go_roundw
          case rel => exact ⟨j + 1, by simp, by omega, HA7.out.1, HA7.out.2⟩
          case measure => simp [intOf]; omega
        · obtain rfl : j = σ2.rs.length := by omega
          rw [List.take_length] at hTb
          have HTb : Hid (wr.heap[T]? = some (.cells ((appl 8 σ2.rs).map (Value.int .u64)).toArray 42 (0, 0))) := hTb
          clear hA hTb hjl hj
          obtain ⟨W9, hW9⟩ : ∃ W9, W9 = wr := ⟨_, rfl⟩
          rw [← hW9] at HA5 HTb ⊢
          clear hW9
          go_wp2_with fail
          go_loopw [25] (fun i wr => ∃ (p q : Nat), i = .int .i64 p ∧ p ≤ n ∧ wr = W9.drewN q) (fun i _ => n - (intOf i).toNat)
          case atStart => exact ⟨0, 0, rfl, Nat.zero_le _, rfl⟩
          case round =>
            obtain ⟨p, q, rfl, hp, rfl⟩ := hrel
            by_cases hpn : p < n
            · have hA6 := HA5.out.drewN q
              obtain ⟨l5, scr5, ho5⟩ := hA6.ob
              have hdel : ∀ k, Calls Ybaf.prog 12 #[.pointer (some ⟨x.O, 0, none⟩), .int .i64 p] ((W9.drewN q).drewN k) fun e w' => e = .returned (.int .u64 ((appl 8 σ2.rs).getD p 0)) ∧ w' = (W9.drewN q).drewN k := by
                intro k
                have hA7 := hA6.drewN k
                obtain ⟨l7, scr7, ho7⟩ := hA7.ob
                have := delivered_any ho7 hA7.D hA7.dl p (by rw [HX.out.2.1]; exact hpn)
                rw [HR2.out.1, appl_at n 8 _ hn8 p hpn] at this
                exact this
              have tc : W9.cell? ⟨T, p, none⟩ = some (.int .u64 ((appl 8 σ2.rs).getD p 0)) := by
                have hlen : p < (appl 8 σ2.rs).length := by rw [appl_length]; omega
                simp only [World.cell?, HTb.out]
                simp [hlen]
              generalize (appl 8 σ2.rs).getD p 0 = z at hdel tc
              have hpn2 : (p : Int) < n := by omega
              have hp8 : p < 8 := by omega
              clear hA6 ho5
              have tc2 : (W9.drewN q).cell? ⟨T, p, none⟩ = some (.int .u64 z) := tc
              obtain ⟨W10, hW10⟩ : ∃ W10, W10 = W9.drewN q := ⟨_, rfl⟩
              have HW10 : Hid (∀ k, ∃ q', W10.drewN k = W9.drewN q') := fun k => ⟨q + k, by rw [hW10, World.drewN_drewN]⟩
              rw [← hW10] at hdel tc2 ⊢
              clear hW10 tc
              go_upto_region 45 with fail
              go_quiet (first | (go_at_call 12; exact Calls.quiet_of_same (hdel _)))
              go_wp2
              go_roundw
              case rel =>
                obtain ⟨q', hq'⟩ := HW10.out nq
                exact ⟨p + 1, q', by simp, by omega, hq'⟩
              case measure => simp [intOf]; omega
            · obtain rfl : p = n := by omega
              have HL : Hid (Below w.heap.size w (W9.drewN q)) := by
                have := (HA5.out.drewN q).low
                rw [HX.out.2.2.2.2.1, HX.out.2.2.2.2.2] at this
                exact this
              clear HA5 HTb hpn hp
              go_wp2
              go_ret
              exact ⟨rfl, HL.out⟩

end Go.Proofs.YbulkbobqFmt
