/-
  Sources of an append; the contracts of zzs3239bclone and zzs3239bsizes.
-/
import Derived.Test.YbulkbobcFmtInt
import Derived.Maps.AppendAt
import Derived.Laws.AppendOwnNone
namespace Go.Proofs.YbulkbobcFmt
open Go.Extern.Stop Go.Stop Go.Extern Go.RowKit

/-- A slice of bytes that came in: nil, or its cells lie there. -/
def Src (w : World) (v : Value) (xs : List Int) : Prop :=
  (∀ x ∈ xs, 0 ≤ x ∧ x ≤ 255) ∧ ((v = .slice none 0 0 ∧ xs = []) ∨ ∃ ad c, v = .slice (some ad) xs.length c ∧ ∀ j u, (xs.map (Value.int .u8))[j]? = some u → w.cell? (ad.add j) = some u)

theorem Src.below {w w' : World} {v : Value} {xs : List Int} (h : Src w v xs) (hb : Below w.heap.size w w') : Src w' v xs := by
  refine ⟨h.1, ?_⟩
  rcases h.2 with h | ⟨ad, c, h1, h2⟩
  · exact .inl h
  · exact .inr ⟨ad, c, h1, fun j u hu => (hb.cell (World.block_lt_of_cell? _ _ (h2 j u hu))).trans (h2 j u hu)⟩

theorem Src.len {w : World} {v : Value} {xs : List Int} (h : Src w v xs) : ∃ a c, v = .slice a xs.length c := by
  rcases h.2 with ⟨rfl, rfl⟩ | ⟨ad, c, h1, _⟩
  · exact ⟨none, 0, rfl⟩
  · exact ⟨_, c, h1⟩

/-- 'append(buf, src...)', buf the call's own, src a slice of bytes that came in. -/
theorem wpList_append_src {P : Program} {w : World} {ops : Array Oper} {rest : List Oper} {o : Oper} {a : Act} {Q : Exit → Act → World → Prop} (hgd : o.guard = none) (s x : Operand) (t : TypeId)
    (ho : o.op = .call { callee := .builtin .append, args := #[s, x], argTypes := #[t, t] })
    (base : Nat) (e : TypeId) (i : TypeInfo) (z : Value) (ht : P.underlying t = some (.slice e)) (hi : P.info? e = some i) (hz : i.zero = some z)
    (hsize : i.size = 1) (hby : i.bytes = 1) (hzs : z.cells.size = 1)
    (v : Value) (n : Nat) (vs : List Value) (hs : a.eval s = v) (hown : w.ownsRow base e 1 v n vs)
    (sv : Value) (xs : List Int) (hx : a.eval x = sv) (hsrc : Src w sv xs) (hlen : n + xs.length ≤ 140737488355328) (hbase : base ≤ w.heap.size)
    (h : ∀ v' w', w'.ownsRow base e 1 v' (n + xs.length) (vs ++ xs.map (Value.int .u8)) → w.grownBy w' v.ownBlock → (v'.ownBlock = v.ownBlock ∨ v'.ownBlock = some w.heap.size) → wpList P ops Q rest (a.put o.dst v') w') :
    wpList P ops Q (o :: rest) a w := by
  rcases hsrc.2 with ⟨rfl, rfl⟩ | ⟨ad, c, rfl, hc⟩
  · refine wpList_append_own_none hgd s x t ho base e i 1 ht hi v n vs hs hown hx ?_
    have := h v w (by simpa using hown) (World.grownBy.refl _ _) (.inl rfl)
    exact this
  · refine wpList_append_own_at w hgd s x t ho base e i z 1 1 ht hi hz hsize hby hzs (by decide) v n vs hs hown ad xs.length c (xs.map (Value.int .u8)) hx (by simp) hc (by intro u hu; simp at hu; obtain ⟨y, _, rfl⟩ := hu; rfl) (by unfold maxLen; omega) (by omega) hbase ?_
    intro v' w' h1 h2 _ h4
    exact h v' w' h1 h2 h4

/-- A slice of bytes that the call itself has made, at 'lo' or later. -/
def New (lo : Nat) (w : World) (v : Value) (xs : List Int) : Prop :=
  (xs = [] ∧ ∃ a c, v = .slice a 0 c) ∨ ∃ b c, v = .slice (some ⟨b, 0, none⟩) xs.length c ∧ xs.length ≤ c ∧ 0 < xs.length ∧ lo ≤ b ∧ b < w.heap.size ∧ ∀ i, i < xs.length → w.cell? ⟨b, 0 + i, none⟩ = some (.int .u8 (xs.getD i 0))

theorem New.ofOwns {base n : Nat} {w : World} {v : Value} {xs : List Int} (h : w.ownsRow base 5 1 v n (xs.map (Value.int .u8))) (hn : xs.length = n) : New base w v xs := by
  subst hn
  rcases h.2 with ⟨rfl, h0⟩ | ⟨g, cap, cur, rfl, hb, hg, hnc, hcm, hcs, htake⟩
  · exact .inl ⟨List.eq_nil_of_length_eq_zero h0, none, 0, rfl⟩
  · by_cases h0 : xs.length = 0
    · exact .inl ⟨List.eq_nil_of_length_eq_zero h0, _, cap, by rw [h0]⟩
    · refine .inr ⟨g, cap, rfl, hnc, by omega, hb, (Array.getElem?_eq_some_iff.1 hg).1, fun i hi => ?_⟩
      have := h.cells (g := g) rfl i (.int .u8 (xs.getD i 0)) (by rw [List.getElem?_map, List.getD_eq_getElem?_getD, List.getElem?_eq_getElem hi]; rfl)
      rwa [show (⟨g, 0, none⟩ : Addr).add i = ⟨g, 0 + i, none⟩ from by unfold Addr.add; split <;> simp_all] at this

theorem Ybaf.info5 : (Ybaf.prog.info? 5).map (fun i => (i.zero, i.size, i.bytes)) = some (some (.int .u8 0), 1, 1) := by kernel_rfl

set_option maxHeartbeats 400000 in
theorem clone_any (v : Value) (xs : List Int) (w : World) (hs : Src w v xs) (hl : xs.length ≤ 2000) :
    Calls Ybaf.prog 10 #[v] w fun e w' => ∃ v', e = .returned v' ∧ New w.heap.size w' v' xs ∧ Below w.heap.size w w' := by
  obtain ⟨i0, hi, hz0, hz1, hz2⟩ := info_parts Ybaf.info5
  have hnil := fun (a : Option Addr) (n c : Nat) (W : World) => Lib.run_eql_slice_nil (P := Ybaf.prog) W 22 5 a n c 0 0 Ybaf.underlying22
  rcases id hs.2 with ⟨rfl, rfl⟩ | ⟨ad, c, rfl, hc⟩
  · go_enter Ybaf.func10, Ybaf.ntmps10
    go_wp2
    go_ret
    exact ⟨_, rfl, .inl ⟨rfl, _, _, rfl⟩, Below.refl _ _⟩
  · go_enter Ybaf.func10, Ybaf.ntmps10
    go_wp2_with (first | (at_builtin; refine wpList_append_src rfl (.tmp 5) (.tmp 6) 22 rfl w.heap.size 5 i0 (.int .u8 0) Ybaf.underlying22 hi hz0 hz1 hz2 rfl _ 0 [] rfl ?c1 _ xs rfl ?c2 ?c3 ?c4 ?_))
    case c1 => exact World.ownsRow_made w #[] 0 (Nat.le_refl _) (by unfold maxLen; omega) rfl
    case c2 => exact hs.below ((Below.refl _ _).alloc (Nat.le_refl _) _)
    case c3 => omega
    case c4 => simp
    intro v' w1 ho1 hg1 _
    have hb1 : Below w.heap.size w w1 := ((Below.refl _ _).alloc (Nat.le_refl _) _).grown hg1 (by simp) (by simp [Value.ownBlock])
    have HN : Hid (New w.heap.size w1 v' xs) := New.ofOwns ho1 rfl
    clear ho1 hg1
    go_wp2
    go_ret
    exact ⟨v', rfl, HN.out, hb1⟩

/-- A slice of slices of bytes that came in. -/
def Srcs (w : World) (a1 : Option Addr) (yss : List (List Int)) : Prop :=
  0 < yss.length → ∃ b off, a1 = some ⟨b, off, none⟩ ∧ b < w.heap.size ∧ ∀ i, i < yss.length → ∃ v, w.cell? ⟨b, off + i, none⟩ = some v ∧ Src w v (yss.getD i [])

theorem Srcs.at {w : World} {a1 : Option Addr} {yss : List (List Int)} (h : Srcs w a1 yss) (i : Nat) (hi : i < yss.length) :
    ∃ b off a c, a1 = some ⟨b, off, none⟩ ∧ b < w.heap.size ∧ w.cell? ⟨b, off + i, none⟩ = some (.slice a (yss.getD i []).length c) ∧ Src w (.slice a (yss.getD i []).length c) (yss.getD i []) := by
  obtain ⟨b, off, h1, h2, h3⟩ := h (by omega)
  obtain ⟨v, h4, h5⟩ := h3 i hi
  obtain ⟨a, c, rfl⟩ := h5.len
  exact ⟨b, off, a, c, h1, h2, h4, h5⟩

/-- What zzs3239bsizes says. -/
def SizesPost (len0 : Nat) (yss : List (List Int)) (w : World) (e : Ending) (w' : World) : Prop :=
  w' = w ∧ (e = .returned (.bool false) ∨ (e = .returned (.bool true) ∧ len0 ≤ 1024 ∧ yss.length ≤ 1024 ∧ ∀ i, i < yss.length → (yss.getD i []).length ≤ 1024))

set_option maxHeartbeats 400000 in
theorem sizes_any (a0 a1 : Option Addr) (len0 cap0 cap1 : Nat) (yss : List (List Int)) (w : World) (hs : Srcs w a1 yss) (h0 : len0 ≤ 9223372036854775807) (h1 : yss.length ≤ 9223372036854775807) (h2 : ∀ i, (yss.getD i []).length ≤ 9223372036854775807) :
    Calls Ybaf.prog 5 #[.slice a0 len0 cap0, .slice a1 yss.length cap1] w (SizesPost len0 yss w) := by
  by_cases g0 : 1024 < len0
  · go_enter Ybaf.func5, Ybaf.ntmps5
    go_wp2
    go_ret
    exact ⟨rfl, .inl rfl⟩
  by_cases g1 : 1024 < yss.length
  · go_enter Ybaf.func5, Ybaf.ntmps5
    go_wp2
    go_ret
    exact ⟨rfl, .inl rfl⟩
  go_enter Ybaf.func5, Ybaf.ntmps5
  go_wp2
  go_loop [5] (fun i => ∃ k : Nat, k ≤ yss.length ∧ i = .int .i64 k ∧ ∀ j, j < k → (yss.getD j []).length ≤ 1024) (fun i => yss.length - (intOf i).toNat)
  case atStart => exact ⟨0, Nat.zero_le _, rfl, fun j hj => by omega⟩
  case round =>
    obtain ⟨k, hk, rfl, hle⟩ := hrel
    have HL : Hid (∀ j, j < k → (yss.getD j []).length ≤ 1024) := hle
    clear hle
    by_cases hlt : k < yss.length
    · obtain ⟨b, off, a, c, rfl, hb, hc, hsr⟩ := hs.at k hlt
      have hl := h2 k
      generalize hL : (yss.getD k []).length = L at *
      have HE : Hid ((yss.getD k []).length = L) := hL
      clear hL h2 hs
      by_cases hbig : 1024 < L
      · go_wp2
        go_ret
        exact ⟨rfl, .inl rfl⟩
      · go_wp2
        go_round
        case rel =>
          refine ⟨k + 1, by omega, by go_num, fun j hj => ?_⟩
          by_cases e : j = k
          · subst e; rw [HE.out]; omega
          · exact HL.out j (by omega)
        case measure => simp [intOf]; omega
    · go_wp2
      go_ret
      exact ⟨rfl, .inr ⟨rfl, by omega, by omega, fun i hi => HL.out i (by omega)⟩⟩

end Go.Proofs.YbulkbobcFmt
