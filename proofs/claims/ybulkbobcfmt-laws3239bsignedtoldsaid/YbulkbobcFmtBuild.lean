/-
  The contract of zzs3239bbuild.
-/
import Derived.Test.YbulkbobcFmtBld
namespace Go.Proofs.YbulkbobcFmt
open Go.Extern.Stop Go.Stop Go.Extern Go.RowKit

theorem Ybaf.info22 : (Ybaf.prog.info? 22).map (fun i => (i.zero, i.size, i.bytes)) = some (some (.slice none 0 0), 1, 24) := by kernel_rfl

/-- What zzs3239bbuild leaves. -/
def BuildPost (ea : Addr) (ps : List Int) (yss : List (List Int)) (wd : Nat) (jk : List Int) (w : World) (e : Ending) (w' : World) : Prop :=
  ∃ (C R g cap : Nat) (vs : List Value) (size : Int) (tv : Value), e = .returned (.tuple #[.pointer (some ⟨C, 0, none⟩), .pointer (some ⟨R, 0, none⟩), tv, .bool (decide (wd ≤ ps.length ∨ ((wd : Int) ≤ size ∧ wd ≤ (ps ++ yss.flatten).length)))]) ∧
    St w'.heap.size C R g cap ea vs yss w' 0 0 ps size 0 (jk.map (Value.int .u8)) ∧ Newo w.heap.size [some C, some R] w' tv (ps ++ yss.flatten) ∧ 0 ≤ size ∧ size ≤ 9223372036854775807 ∧ w.heap.size ≤ C ∧ w.heap.size ≤ R ∧ Below w.heap.size w w'

theorem New.len {lo : Nat} {w : World} {v : Value} {xs : List Int} (h : New lo w v xs) : ∃ a c, v = .slice a xs.length c := by
  rcases h with ⟨rfl, a, c, rfl⟩ | ⟨b, c, rfl, _⟩
  · exact ⟨a, c, rfl⟩
  · exact ⟨_, c, rfl⟩
theorem New.one {lo : Nat} {w : World} {v : Value} {xs : List Int} (h : New lo w v xs) : v.oneCell' = true := by
  rcases h with ⟨_, a, c, rfl⟩ | ⟨b, c, rfl, _⟩ <;> rfl

/-- The bytes gathered behind k rounds. -/
def totL (ps : List Int) (yss : List (List Int)) (k : Nat) : List Int := ps ++ (yss.take k).flatten
theorem totL_le (ps : List Int) (yss : List (List Int)) (hpl : ps.length ≤ 1024) (hyl : yss.length ≤ 1024) (h : ∀ i, (yss.getD i []).length ≤ 1024) (k : Nat) : (totL ps yss k).length ≤ 1024 + 1024 * 1024 := by
  have : ∀ (l : List (List Int)), (∀ y ∈ l, y.length ≤ 1024) → l.flatten.length ≤ l.length * 1024 := by
    intro l
    induction l with
    | nil => intro _; simp
    | cons y t ih =>
      intro hl
      have h1 := hl y (List.mem_cons_self ..)
      have h2 := ih fun z hz => hl z (List.mem_cons_of_mem _ hz)
      rw [List.flatten_cons, List.length_append, List.length_cons]
      omega
  have h1 := this (yss.take k) fun y hy => by
    obtain ⟨i, hi, rfl⟩ := List.getElem_of_mem (List.mem_of_mem_take hy)
    have := h i
    rwa [List.getD_eq_getElem?_getD, List.getElem?_eq_getElem hi] at this
  have h2 : (yss.take k).length ≤ 1024 := by rw [List.length_take]; omega
  unfold totL
  rw [List.length_append]
  omega

/-- What stands between the two appends of a round. -/
theorem mid {w W0 wr w1 w2 : World} {g m : Nat} {ps : List Int} {yss : List (List Int)} {k : Nat} {vals : List Value} {tv v' : Value} (hB : Bld W0 wr (w.heap.size + 1) g m ps yss k vals tv) (hbel : Below w.heap.size w wr) (hb1 : Below wr.heap.size wr w1)
    (hg2 : (w1.alloc (.cells #[v'] 22)).grownBy w2 (some g)) :
    Below w.heap.size w w2 ∧ w2.ownsRow (w.heap.size + 1) 5 1 tv (totL ps yss k).length ((totL ps yss k).map (Value.int .u8)) ∧ w.heap.size + 1 ≤ w2.heap.size := by
  have hs := hb1.size
  have h0 := hB.hB
  have h1 := hB.gB
  have hs2 := hg2.size
  simp at hs2
  refine ⟨((hbel.trans (hb1.mono (by omega))).alloc (by omega) _).grown hg2 (by simp; omega) (by simp; omega), ?_, by omega⟩
  have e1 : w1.ownsRow (w.heap.size + 1) 5 1 tv _ _ := hB.tot.kept (grown_of_below hb1 none) (by cases h : tv.ownBlock <;> simp)
  exact (e1.alloc _).kept hg2 (.inr hB.tg)

theorem bcell5 {B : Nat} {W w1 : World} (hb : Below B W w1) : (∀ b o, b < B → w1.cell? ⟨b, o, none⟩ = W.cell? ⟨b, o, none⟩) ∧ (∀ b o, b < B → w1.frozen? ⟨b, o, none⟩ = W.frozen? ⟨b, o, none⟩) :=
  ⟨fun b o h => hb.cell (p := ⟨b, o, none⟩) h, fun b o h => hb.frozen (p := ⟨b, o, none⟩) h⟩

/-- The container's cells, written out. -/
def contA (R : Nat) (run : Value) (size : Int) (j0 j1 j2 j3 j4 j5 j6 j7 : Int) : Array Value :=
  #[.string ⟨#[108, 105, 115, 116, 112, 97, 99, 107]⟩, .iface 28 (.pointer (some ⟨R, 0, none⟩)), run, .int .i64 0, .int .u64 size, .int .u64 0, .int .i64 0, .int .i64 0, .int .u8 j0, .int .u8 j1, .int .u8 j2, .int .u8 j3, .int .u8 j4, .int .u8 j5, .int .u8 j6, .int .u8 j7, .bool false, .slice none 0 0]

theorem finish {ea : Addr} {w W0 wr w5 w' : World} {ps : List Int} {yss : List (List Int)} {vals : List Value} {tv v5 : Value} {size : Int} {j0 j1 j2 j3 j4 j5 j6 j7 : Int}
    (hB : Bld W0 wr (w.heap.size + 1) (w.heap.size + 1) yss.length ps yss yss.length vals tv) (hbel : Below w.heap.size w wr)
    (h5 : Below (wr.heap.size + 1) (wr.alloc (.cells #[.slice (some ⟨w.heap.size + 1, 0, none⟩) yss.length yss.length, .int .i64 0, .int .i64 0] 41)) w5) (hn5 : New (wr.heap.size + 1) w5 v5 ps)
    (hby : ∀ x ∈ ps, 0 ≤ x ∧ x ≤ 255) (hyby : ∀ i, ∀ x ∈ yss.getD i [], 0 ≤ x ∧ x ≤ 255)
    (hw' : w'.heap = (w5.alloc (.cells (contA wr.heap.size v5 size j0 j1 j2 j3 j4 j5 j6 j7) 39)).heap) (hos : w'.os = w5.os ∧ w'.tape = w5.tape ∧ w'.output = w5.output)
    (hpl : ps.length ≤ 1024) (hyl : yss.length ≤ 1024) (hyl2 : ∀ i, (yss.getD i []).length ≤ 1024) (he : w.cell? ⟨1, 0, none⟩ = some (.iface 65 (.pointer (some ea)))) :
    St w'.heap.size w5.heap.size wr.heap.size (w.heap.size + 1) yss.length ea vals yss w' 0 0 ps size 0 ([j0, j1, j2, j3, j4, j5, j6, j7].map (Value.int .u8)) ∧
    Newo w.heap.size [some w5.heap.size, some wr.heap.size] w' tv (ps ++ yss.flatten) ∧ Below w.heap.size w w' := by
  have hs5 : wr.heap.size + 1 ≤ w5.heap.size := by have := h5.size; simpa using this
  have hsz : w'.heap.size = w5.heap.size + 1 := by rw [hw']; simp
  have hB0 := hB.hB
  have hgl := hB.g_lt
  have hb1 : 1 < w.heap.size := World.block_lt_of_cell? _ _ he
  have hvl : vals.length = yss.length := by simpa using hB.rc.1
  -- blocks of the elder worlds
  have e5 : ∀ b, b < w5.heap.size → w'.heap[b]? = w5.heap[b]? := fun b hb => by rw [hw']; exact Below.heap_alloc w5 _ b hb
  have er : ∀ b, b < wr.heap.size → w'.heap[b]? = wr.heap[b]? := fun b hb => by
    rw [e5 b (by omega), h5.block b (by omega)]
    exact Below.heap_alloc wr _ b hb
  have cr : ∀ b j, b < wr.heap.size → w'.cell? ⟨b, j, none⟩ = wr.cell? ⟨b, j, none⟩ := fun b j hb => World.cell?_of_block (a := ⟨b, j, none⟩) (er b hb)
  have c5 : ∀ b j, b < w5.heap.size → w'.cell? ⟨b, j, none⟩ = w5.cell? ⟨b, j, none⟩ := fun b j hb => World.cell?_of_block (a := ⟨b, j, none⟩) (e5 b hb)
  have hbelow : Below w.heap.size w w' := by
    refine ⟨hos.1.trans (h5.os.trans hbel.os), hos.2.1.trans (h5.tape.trans hbel.tape), hos.2.2.trans (h5.output.trans hbel.output), by have := hbel.size; omega, fun b hb => ?_⟩
    rw [er b (by have := hbel.size; omega)]
    exact hbel.block b hb
  obtain ⟨a5, c5', rfl⟩ := hn5.len
  refine ⟨⟨⟨a5, c5', ⟨?_, rfl⟩, hby, ?_⟩, ⟨0, ?_⟩, ⟨by omega, by simp; omega, hvl, ?_⟩, Nat.zero_le _, Nat.zero_le _, by omega, fun i => by have := hyl2 i; omega, by omega, Nat.le_refl _, ?_, by omega, by have := hbel.size; omega, by have := hbel.size; omega, by omega, by omega, by omega⟩, ?_, hbelow⟩
  · rw [hw', heap_alloc_new]
    rfl
  · rcases hn5 with ⟨h0, _⟩ | ⟨b, c, hv, hlc, h0, hlo, hlt, hcell⟩
    · refine .inl ⟨h0, a5, c5', by rw [h0]; rfl⟩
    · refine .inr ⟨b, 0, c, hv, hlc, h0, by omega, by simp; omega, fun i hi => (c5 b _ hlt).trans (hcell i hi)⟩
  · show w'.heap[wr.heap.size]? = _
    rw [e5 _ (by omega), h5.block _ (by omega), heap_alloc_new]
    rfl
  · intro i hv hx
    have hrc := hB.rc.cells (g := w.heap.size + 1) rfl i vals[i] (by rw [List.getElem?_eq_getElem hv])
    rw [show (⟨w.heap.size + 1, 0, none⟩ : Addr).add i = ⟨w.heap.size + 1, i, none⟩ from by unfold Addr.add; split <;> simp_all] at hrc
    refine ⟨(cr _ _ hgl).trans hrc, ?_⟩
    have hnv := hB.vals i hx
    have ev : vals.getD i (.slice none 0 0) = vals[i] := by rw [List.getD_eq_getElem?_getD, List.getElem?_eq_getElem hv]; rfl
    have ey : yss.getD i [] = yss[i] := by rw [List.getD_eq_getElem?_getD, List.getElem?_eq_getElem hx]; rfl
    have hyb := hyby i
    rw [ev, ey] at hnv
    rw [ey] at hyb
    refine ⟨hyb, ?_⟩
    rcases hnv with ⟨h0, a, c, hvv⟩ | ⟨b, c, hvv, hlc, h0, hlo, hlt, hbad, hcell⟩
    · exact .inl ⟨h0, a, c, hvv⟩
    · exact .inr ⟨b, 0, c, hvv, hlc, h0, by omega, by simp; omega, fun j hj => (cr b _ hlt).trans (hcell j hj)⟩
  · exact (hbelow.cell (p := ⟨1, 0, none⟩) hb1).trans he
  · have ht := New.ofOwns hB.tot rfl
    rw [List.take_length] at ht
    rcases ht with he | ⟨b, c, hv, hlc, h0, hlo, hlt, hcell⟩
    · exact .inl he
    · exact .inr ⟨b, c, hv, hlc, h0, by omega, by omega, by simp; omega, fun i hi => (cr b _ hlt).trans (hcell i hi)⟩

set_option maxRecDepth 100000 in
set_option maxHeartbeats 2000000 in
theorem build_any (ea : Addr) (pv : Value) (ps : List Int) (a1 : Option Addr) (cap1 : Nat) (yss : List (List Int)) (wd : Nat) (sel : Int) (j0 j1 j2 j3 j4 j5 j6 j7 : Int) (w : World)
    (hp : Src w pv ps) (hs : Srcs w a1 yss) (hpl : ps.length ≤ 1024) (hyl : yss.length ≤ 1024) (hyl2 : ∀ i, (yss.getD i []).length ≤ 1024) (hw8 : wd ≤ 8) (hsel : 0 ≤ sel) (he : w.cell? ⟨1, 0, none⟩ = some (.iface 65 (.pointer (some ea)))) :
    Calls Ybaf.prog 6 #[pv, .slice a1 yss.length cap1, .int .i64 wd, .int .u64 sel, .agg #[.int .u8 j0, .int .u8 j1, .int .u8 j2, .int .u8 j3, .int .u8 j4, .int .u8 j5, .int .u8 j6, .int .u8 j7]] w (BuildPost ea ps yss wd [j0, j1, j2, j3, j4, j5, j6, j7] w) := by
  obtain ⟨i0, hi, hz0, hz1, hz2⟩ := info_parts Ybaf.info5
  obtain ⟨i2, hi2, hy0, hy1, hy2⟩ := info_parts Ybaf.info22
  obtain ⟨pa, pc, rfl⟩ := hp.len
  go_enter Ybaf.func6, Ybaf.ntmps6
  go_wp2_with (first | (at_make; refine wpList_make_own _ rfl _ _ 23 rfl (w.heap.size + 1) 22 i2 _ 1 Ybaf.underlying23 hi2 hy0 hy1 .i64 .i64 _ yss.length rfl rfl (by simp) (by rw [hy2]; omega) (by unfold maxLen; omega) (by simp) ?_; intro w1 ho1 hg1) | (at_builtin; refine wpList_append_src rfl (.tmp 24) (.tmp 25) 22 rfl (w.heap.size + 1) 5 i0 (.int .u8 0) Ybaf.underlying22 hi hz0 hz1 hz2 rfl _ 0 [] rfl ?c1 _ ps rfl ?c2 ?c3 ?c4 ?_))
  case c1 => exact World.ownsRow_made w1 #[] 0 (by have := hg1.size; simpa using this) (by unfold maxLen; omega) rfl
  case c2 => exact hp.below (((((Below.refl _ _).alloc (Nat.le_refl _) _).grown hg1 (by simp) (by simp))).alloc (by have := hg1.size; simp at this; omega) _)
  case c3 => omega
  case c4 => have := hg1.size; simp at this ⊢; omega
  intro tv w2 ho2 hg2 hat
  have hs1 : w.heap.size + 1 < w1.heap.size := by have := (ho1.lt _ rfl).2; simpa using this
  have hs2 : w1.heap.size + 1 ≤ w2.heap.size := by have := hg2.size; simpa using this
  generalize hJ : w.alloc (.cells #[.int .u8 j0, .int .u8 j1, .int .u8 j2, .int .u8 j3, .int .u8 j4, .int .u8 j5, .int .u8 j6, .int .u8 j7] 25) = W0 at *
  have hW0 : W0.heap.size = w.heap.size + 1 := by rw [← hJ]; simp
  have hbW : Below w.heap.size w W0 := by rw [← hJ]; exact (Below.refl _ _).alloc (Nat.le_refl _) _
  have hB0 : Bld W0 w2 (w.heap.size + 1) (w.heap.size + 1) yss.length ps yss 0 [] tv := by
    refine ⟨?_, ?_, ?_, fun i hi => by omega, ?_, Nat.le_refl _, by omega⟩
    · have := (ho1.alloc (.cells #[] 5)).kept hg2 (.inr (by simp [Value.ownBlock]; omega))
      rwa [hW0] at this
    · simpa using ho2
    · rcases hat with e | e <;> rw [e] <;> simp [Value.ownBlock] <;> omega
    · exact (((Below.refl _ _).grown hg1 (by omega) (by simp)).alloc (by omega) _).grown hg2 (by simp; omega) (by simp [Value.ownBlock]; omega)
  have HJ : Hid (w.alloc (.cells #[.int .u8 j0, .int .u8 j1, .int .u8 j2, .int .u8 j3, .int .u8 j4, .int .u8 j5, .int .u8 j6, .int .u8 j7] 25) = W0) := hJ
  clear hJ hat ho1 ho2 hg1 hg2
  go_wp2
  go_loopw [14, 15, 16] (fun rv tv iv wr => ∃ (k : Nat) (vals : List Value), k ≤ yss.length ∧ iv = .int .i64 k ∧ rv = .slice (some ⟨w.heap.size + 1, 0, none⟩) k yss.length ∧ Bld W0 wr (w.heap.size + 1) (w.heap.size + 1) yss.length ps yss k vals tv) (fun _ _ i _ => yss.length - (intOf i).toNat)
  case atStart => exact ⟨0, [], Nat.zero_le _, rfl, rfl, hB0⟩
  case round =>
    obtain ⟨k, vals, hk, rfl, rfl, hB⟩ := hrel
    clear hB0 hs1 hs2
    have hbel : Below w.heap.size w wr := hbW.trans (hB.below.mono (by omega))
    by_cases hlt : k < yss.length
    · obtain ⟨b, off, a, c, rfl, hbb, hc, hsr⟩ := hs.at k hlt
      have hck : wr.cell? ⟨b, off + k, none⟩ = some (.slice a (yss.getD k []).length c) := (hbel.cell (p := ⟨b, off + k, none⟩) hbb).trans hc
      have hsk : Src wr (.slice a (yss.getD k []).length c) (yss.getD k []) := hsr.below hbel
      have hlk := hyl2 k
      have HY2 : Hid (∀ i, (yss.getD i []).length ≤ 1024) := hyl2
      clear hs hyl2
      generalize hL : (yss.getD k []).length = L at hck hsk hlk hc hsr
      have HL : Hid ((yss.getD k []).length = L) := hL
      clear hL
      go_wp2_with fail
      refine (clone_any _ (yss.getD k []) wr hsk (by rw [HL.out]; omega)).mono ?_
      rintro e w1 ⟨v', rfl, hn, hb1⟩
      have hrc : w1.ownsRow (w.heap.size + 1) 22 1 (.slice (some ⟨w.heap.size + 1, 0, none⟩) k yss.length) k vals := hB.rc.kept (grown_of_below hb1 none) (.inr (by simp [Value.ownBlock]))
      obtain ⟨va, vc, rfl⟩ := hn.len
      have HN : Hid (New wr.heap.size w1 (.slice va (yss.getD k []).length vc) (yss.getD k [])) := hn
      clear hn hck hsk
      rw [HL.out] at HN
      rw [HL.out]
      have hnl := totL_le ps yss hpl hyl HY2.out k
      have hrest := HL.out
      generalize hT : totL ps yss k = T at hnl
      generalize hYS : yss.getD k [] = ys at HN hsr hrest
      have HT : Hid (totL ps yss k = T) := hT
      have HYS : Hid (yss.getD k [] = ys) := hYS
      have HLY : Hid (ys.length = L) := hrest
      clear hT hYS hrest
      go_wp2_with (first | (at_builtin; refine wpList_append_fits _ rfl (.tmp 33) (.tmp 39) 23 rfl (w.heap.size + 1) 22 i2 1 Ybaf.underlying23 hi2 hy1 (w.heap.size + 1) k yss.length vals rfl (hrc.alloc _) ⟨_, 0, none⟩ 1 1 [_] rfl rfl (cell_one_new _ _ _) ?c5 (by omega) ?_; rotate_right; intro w3 ho3 hg3; obtain ⟨hbel3, htot3, hsz3⟩ := mid hB hbel hb1 hg3; rw [HT.out] at htot3; have hck3 := (hbel3.cell (p := ⟨b, off + k, none⟩) hbb).trans hc) | (at_builtin; refine wpList_append_src rfl (.tmp 41) (.tmp 45) 22 rfl (w.heap.size + 1) 5 i0 (.int .u8 0) Ybaf.underlying22 hi hz0 hz1 hz2 rfl _ _ _ rfl htot3 _ ys rfl (hsr.below hbel3) ?c6 hsz3 ?_))
      case c5 => intro u hu; simp at hu; subst hu; rfl
      case c6 => rw [HLY.out]; omega
      intro tv' w4 ho4 hg4 hat
      have HB2 : Hid (Bld W0 w4 (w.heap.size + 1) (w.heap.size + 1) yss.length ps yss (k + 1) (vals ++ [.slice va L vc]) tv') := by
        refine hB.step hlt (w1 := w1) (w2 := w3) ?_ hb1 ho3 hg3 ?_ hg4 hat
        · rw [HYS.out]; exact HN.out
        · rw [HYS.out]
          have e := HT.out
          unfold totL at e
          rw [e]
          exact ho4
      clear ho4 hg4 hat ho3 hg3 htot3 hck3 hB
      go_wp2
      go_roundw
      case rel => exact ⟨k + 1, _, by omega, by go_num, rfl, HB2.out⟩
      case measure => simp [intOf]; omega
    · obtain rfl : k = yss.length := by omega
      obtain ⟨ta, tc, hu15⟩ := (New.ofOwns hB.tot rfl).len
      have hN := totL_le ps yss hpl hyl hyl2 yss.length
      have HB : Hid (Bld W0 wr (w.heap.size + 1) (w.heap.size + 1) yss.length ps yss yss.length vals u15) := hB
      have HTN : Hid ((ps ++ (yss.take yss.length).flatten).length = (ps ++ yss.flatten).length) := by unfold Hid; rw [List.take_length]
      change (ps ++ (yss.take yss.length).flatten).length ≤ _ at hN
      generalize hNN : (ps ++ (yss.take yss.length).flatten).length = N at hN hu15 HTN
      clear hNN
      subst hu15
      obtain ⟨sz, hq, hq0, hq1⟩ : ∃ sz : Int, sel % ((N : Int) + 4) = sz ∧ 0 ≤ sz ∧ sz < (N : Int) + 4 := ⟨_, rfl, Int.emod_nonneg _ (by omega), Int.emod_lt_of_pos _ (by omega)⟩
      have hjc := hB.below
      have k0 : wr.cell? ⟨w.heap.size, 0, none⟩ = some (.int .u8 j0) := (hjc.cell (p := ⟨w.heap.size, 0, none⟩) (by simp)).trans (by rw [← HJ.out]; simp)
      have k1 : wr.cell? ⟨w.heap.size, 1, none⟩ = some (.int .u8 j1) := (hjc.cell (p := ⟨w.heap.size, 1, none⟩) (by simp)).trans (by rw [← HJ.out]; simp)
      have k2 : wr.cell? ⟨w.heap.size, 2, none⟩ = some (.int .u8 j2) := (hjc.cell (p := ⟨w.heap.size, 2, none⟩) (by simp)).trans (by rw [← HJ.out]; simp)
      have k3 : wr.cell? ⟨w.heap.size, 3, none⟩ = some (.int .u8 j3) := (hjc.cell (p := ⟨w.heap.size, 3, none⟩) (by simp)).trans (by rw [← HJ.out]; simp)
      have k4 : wr.cell? ⟨w.heap.size, 4, none⟩ = some (.int .u8 j4) := (hjc.cell (p := ⟨w.heap.size, 4, none⟩) (by simp)).trans (by rw [← HJ.out]; simp)
      have k5 : wr.cell? ⟨w.heap.size, 5, none⟩ = some (.int .u8 j5) := (hjc.cell (p := ⟨w.heap.size, 5, none⟩) (by simp)).trans (by rw [← HJ.out]; simp)
      have k6 : wr.cell? ⟨w.heap.size, 6, none⟩ = some (.int .u8 j6) := (hjc.cell (p := ⟨w.heap.size, 6, none⟩) (by simp)).trans (by rw [← HJ.out]; simp)
      have k7 : wr.cell? ⟨w.heap.size, 7, none⟩ = some (.int .u8 j7) := (hjc.cell (p := ⟨w.heap.size, 7, none⟩) (by simp)).trans (by rw [← HJ.out]; simp)
      have hJl : w.heap.size < wr.heap.size := by have := HB.out.hB; omega
      have HX : Hid (∀ (w5 w' : World) (v5 : Value) (okb : Bool), Below (wr.heap.size + 1) (wr.alloc (.cells #[.slice (some ⟨w.heap.size + 1, 0, none⟩) yss.length yss.length, .int .i64 0, .int .i64 0] 41)) w5 → New (wr.heap.size + 1) w5 v5 ps →
          w'.heap = (w5.alloc (.cells (contA wr.heap.size v5 sz j0 j1 j2 j3 j4 j5 j6 j7) 39)).heap → (w'.os = w5.os ∧ w'.tape = w5.tape ∧ w'.output = w5.output) → okb = decide (wd ≤ ps.length ∨ ((wd : Int) ≤ sz ∧ wd ≤ N)) →
          BuildPost ea ps yss wd [j0, j1, j2, j3, j4, j5, j6, j7] w (.returned (.tuple #[.pointer (some ⟨w5.heap.size, 0, none⟩), .pointer (some ⟨wr.heap.size, 0, none⟩), .slice ta N tc, .bool okb])) w') := by
        intro w5 w' v5 okb g5 gn5 gh go gk
        have hyby : ∀ i, ∀ x ∈ yss.getD i [], 0 ≤ x ∧ x ≤ 255 := by
          intro i x hx
          by_cases hi : i < yss.length
          · obtain ⟨_, _, _, _, _, _, _, hsr⟩ := hs.at i hi
            exact hsr.1 x hx
          · rw [List.getD_eq_getElem?_getD, List.getElem?_eq_none (by omega)] at hx
            simp at hx
        obtain ⟨f1, f2, f3⟩ := finish HB.out hbel g5 gn5 hp.1 hyby gh go hpl hyl hyl2 he
        refine ⟨w5.heap.size, wr.heap.size, w.heap.size + 1, yss.length, vals, sz, _, ?_, f1, f2, hq0, by omega, ?_, ?_, f3⟩
        · rw [gk, HTN.out]
        · have := g5.size; simp at this; omega
        · omega
      clear hB hjc
      go_wp2
      go_region_with (go_at_call 10; go_must (refine (clone_any _ ps _ ?_ (by omega)).mono ?_); go_must (exact hp.below ((hbel.alloc (by omega) _).drew)); rintro e w5 ⟨v5, rfl, hn5, hb5⟩; obtain ⟨va, vc, rfl⟩ := hn5.len; obtain ⟨hc5, hf5⟩ := bcell5 hb5)
      all_goals
        have HB5 : Hid (Below (wr.heap.size + 1) (wr.alloc (.cells #[.slice (some ⟨w.heap.size + 1, 0, none⟩) yss.length yss.length, .int .i64 0, .int .i64 0] 41)) w5) := ((Below.refl _ _).drew).trans (hb5.mono (by simp))
        have HN5 : Hid (New (wr.heap.size + 1) w5 (.slice va ps.length vc) ps) := by unfold Hid; simpa using hn5
        clear hn5 hb5 hc5 hf5 k0 k1 k2 k3 k4 k5 k6 k7
        by_cases g1 : wd ≤ ps.length
        · have e1 : (wd : Int) ≤ (ps.length : Int) := by omega
          go_wp2
          exact bodyPost_ret (v := .tuple #[.pointer (some ⟨w5.heap.size, 0, none⟩), .pointer (some ⟨wr.heap.size, 0, none⟩), .slice ta N tc, .bool true]) (by simp [results, Ybaf.results6, go_sem]) rfl (HX.out w5 _ _ _ HB5.out HN5.out rfl ⟨rfl, rfl, rfl⟩ (by simp [g1]))
        · have e1 : decide ((wd : Int) ≤ (ps.length : Int)) = false := by rw [decide_eq_false_iff_not]; omega
          by_cases g2 : (wd : Int) ≤ sz
          · by_cases g3 : wd ≤ N
            · have e3 : (wd : Int) ≤ (N : Int) := by omega
              go_wp2
              exact bodyPost_ret (v := .tuple #[.pointer (some ⟨w5.heap.size, 0, none⟩), .pointer (some ⟨wr.heap.size, 0, none⟩), .slice ta N tc, .bool true]) (by simp [results, Ybaf.results6, go_sem]) rfl (HX.out w5 _ _ _ HB5.out HN5.out rfl ⟨rfl, rfl, rfl⟩ (by simp [g1, g2, g3]))
            · have e3 : decide ((wd : Int) ≤ (N : Int)) = false := by rw [decide_eq_false_iff_not]; omega
              go_wp2
              exact bodyPost_ret (v := .tuple #[.pointer (some ⟨w5.heap.size, 0, none⟩), .pointer (some ⟨wr.heap.size, 0, none⟩), .slice ta N tc, .bool false]) (by simp [results, Ybaf.results6, go_sem]) rfl (HX.out w5 _ _ _ HB5.out HN5.out rfl ⟨rfl, rfl, rfl⟩ (by simp [g1, g3]))
          · have e2 : decide ((wd : Int) ≤ sz) = false := by rw [decide_eq_false_iff_not]; omega
            go_wp2
            exact bodyPost_ret (v := .tuple #[.pointer (some ⟨w5.heap.size, 0, none⟩), .pointer (some ⟨wr.heap.size, 0, none⟩), .slice ta N tc, .bool false]) (by simp [results, Ybaf.results6, go_sem]) rfl (HX.out w5 _ _ _ HB5.out HN5.out rfl ⟨rfl, rfl, rfl⟩ (by simp [g1]; omega))

end Go.Proofs.YbulkbobcFmt
