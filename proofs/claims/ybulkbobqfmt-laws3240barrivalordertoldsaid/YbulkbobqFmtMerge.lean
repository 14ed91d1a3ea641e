/-
  The contract of merge: what shape it leaves.
-/
import Derived.Test.YbulkbobqFmtOb
namespace Go.Proofs.YbulkbobqFmt
open Go.RowKit

/-- What merge says. -/
def MergePost (base O N : Nat) (s : OS) (logged holding holders : Int) (fifo barred : Bool) (w : World) (e : Ending) (w' : World) : Prop :=
  ∃ es' scr', e = .returned es' ∧ LogSl base N w' es' ∧ LogSl base 0 w' scr' ∧ Ob w' O s logged holding holders scr' fifo barred ∧ LogOK base w' ∧ Fr base [O] [70] w w'

/-- The j-th entry. -/
theorem Ents.entry {w : World} {a : Option Addr} {c : Nat} {al : List (Nat × Int × Int)} (h : Ents w (.slice a al.length c) al) (j : Nat) (hj : j < al.length) :
    ∃ (b off : Nat) (sd : Nat) (sq pd : Int), a = some ⟨b, off, none⟩ ∧ al[j] = (sd, sq, pd) ∧ sd < 64 ∧ 0 ≤ sq ∧ sq < 18446744073709551616 ∧ 0 ≤ pd ∧ pd < 18446744073709551616 ∧
      w.cell? ⟨b, off + j * 3, none⟩ = some (.int .i64 sd) ∧ w.cell? ⟨b, off + j * 3 + 1, none⟩ = some (.int .u64 sq) ∧ w.cell? ⟨b, off + j * 3 + 2, none⟩ = some (.int .u64 pd) := by
  obtain ⟨h1, a', c', hv, hc, h2⟩ := h
  simp only [Value.slice.injEq, true_and] at hv
  obtain ⟨rfl, rfl⟩ := hv
  rcases h2 with rfl | ⟨b, off, cur, fr, rfl, hg, hcell⟩
  · simp at hj
  · obtain ⟨k1, k2, k3, k4, k5⟩ := h1 al[j] (List.getElem_mem hj)
    obtain ⟨c1, c2, c3⟩ := hcell j hj
    exact ⟨b, off, al[j].1, al[j].2.1, al[j].2.2, rfl, rfl, k1, k2, k3, k4, k5, c1, c2, c3⟩

theorem LogOK.box {base : Nat} {w : World} (h : LogOK base w) {x y : Int} (hx : 0 ≤ x ∧ x < 18446744073709551616) (hy : 0 ≤ y ∧ y < 18446744073709551616) : LogOK base (w.alloc (.cells #[.int .u64 x, .int .u64 y] 70)) :=
  LogOK.alloc h _ _ fun _ u hu => by
    simp at hu
    rcases hu with rfl | rfl
    · exact isU_int hx.1 hx.2
    · exact isU_int hy.1 hy.2
theorem LogOK.other {base : Nat} {w : World} (h : LogOK base w) (cur : Array Value) (t : TypeId) (ht : t ≠ 70) : LogOK base (w.alloc (.cells cur t)) := LogOK.alloc h _ _ fun e => absurd e ht
theorem LogSl.box {base N : Nat} {w : World} {v : Value} (h : LogSl base N w v) (o : Obj) : LogSl base N (w.alloc o) v := h.fr ((Fr.refl base [] [] w).alloc o)

set_option maxRecDepth 100000 in
set_option maxHeartbeats 2000000 in
theorem merge_any (base O N : Nat) (s : OS) (logged holding holders : Int) (scr : Value) (fifo barred : Bool) (es ab : Value) (al : List (Nat × Int × Int)) (to past known : Int) (w : World)
    (hO : Ob w O s logged holding holders scr fifo barred) (hbO : base ≤ O) (hes : LogSl base N w es) (hscr : LogSl base N w scr) (hok : LogOK base w) (hab : Ents w ab al) (hN : N ≤ 100000) (hal : al.length ≤ 10) (hb : base ≤ w.heap.size) :
    Calls Ybaf.prog 26 #[.pointer (some ⟨O, 0, none⟩), es, ab, .int .u64 to, .int .u64 past, .int .u64 known] w (MergePost base O (N + al.length) s logged holding holders fifo barred w) := by
  have q14 : w.cell? ⟨O, 14, none⟩ = some scr := hO.at 14
  obtain ⟨av, cv, hv0, hsl0⟩ := log_cut hscr
  obtain ⟨n, xs, _, hnN, _, a, c, rfl⟩ := hes.owns hok
  obtain ⟨a2, c2, rfl⟩ : ∃ a2 c2, ab = .slice a2 al.length c2 := by obtain ⟨_, a2, c2, h, _⟩ := hab; exact ⟨a2, c2, h⟩
  go_enter Ybaf.func26, Ybaf.ntmps26
  go_wp2
  go_loopw [13, 14, 15] (fun out iv jv wr => ∃ i j : Nat, i ≤ n ∧ j ≤ al.length ∧ iv = .int .i64 i ∧ jv = .int .i64 j ∧ LogSl base (i + j) wr out ∧ LogOK base wr ∧ Fr base [] [70] w wr) (fun _ iv jv _ => (n - (intOf iv).toNat) + (al.length - (intOf jv).toNat))
  case atStart => exact ⟨0, 0, Nat.zero_le _, Nat.zero_le _, rfl, rfl, hsl0, hok, Fr.refl _ _ _ _⟩
  case round =>
    obtain ⟨i, j, hi, hj, rfl, rfl, hsl, hok', hf⟩ := hrel
    clear hsl0 hv0 q14
    have hes' : LogSl base N wr (.slice a n c) := hes.fr hf
    have hab' : Ents wr (.slice a2 al.length c2) al := hab.fr hf (by simp) fun k hk => by simp at hk
    have hbr : base ≤ wr.heap.size := Nat.le_trans hb hf.size
    generalize hm : al.length = m at *
    have HM : Hid (al.length = m) := hm
    clear hm hes hab hok
    by_cases hjm : j < m
    · obtain ⟨b2, o2, sd, sq, pd, rfl, _, _, hq0, hq1, hd0, hd1, c0, c1, c2'⟩ := (HM.out ▸ hab' : Ents wr (.slice a2 al.length c2) al).entry j (by rw [HM.out]; exact hjm)
      by_cases hin : i < n
      · rcases id hes' with h | ⟨b, n', c', cur, h1, _⟩
        · simp at h; omega
        simp only [Value.slice.injEq] at h1
        obtain ⟨rfl, rfl, rfl⟩ := h1
        obtain ⟨hb', hnc, _, hfz, x, y, hx, hy, hx0, hx1, hy0, hy1⟩ := hes'.cells hok' i hin
        have hjb : ((j : Int) == (m : Int)) = false := beq_eq_false_iff_ne.2 (by omega)
        have hib : ((i : Int) == (n : Int)) = false := beq_eq_false_iff_ne.2 (by omega)
        rcases Int.lt_trichotomy x sq with hlt | heq | hgt
        · go_wp2
          go_quiet (fail)
          generalize hW : wr.drewN _ = W
          have hsl := (by rw [← hW]; exact hsl : LogSl base (i + j) W u13)
          have hok' := (by rw [← hW]; exact hok' : LogOK base W)
          have hf := (by rw [← hW]; exact hf.drewN _ : Fr base [] [70] w W)
          have hbr := (by rw [← hW]; exact hbr : base ≤ W.heap.size)
          have hx := (by rw [← hW]; exact hx : W.cell? ⟨b, i * 2, none⟩ = some (.int .u64 x))
          have hy := (by rw [← hW]; exact hy : W.cell? ⟨b, i * 2 + 1, none⟩ = some (.int .u64 y))
          clear hW hes' hab'
          by_cases hp : x ≤ past
          · go_wp2_with (first | (at_builtin; refine wpList_append_log rfl (.tmp 90) (.tmp 92) rfl base (i + j) _ u13 _ _ _ rfl rfl ?c1_1 ?c2_1 ?c3_1 ?c4_1 ?c5_1 ?c6_1 ?c7_1 ?c8_1))
            try (case c1_1 => simp)
            try (case c2_1 => exact hsl.box _)
            try (case c3_1 => exact hok'.box ⟨hx0, hx1⟩ ⟨by omega, by omega⟩)
            try (case c6_1 => omega)
            try (case c7_1 => first | omega | (simp; omega))
            try (case c4_1 => exact ⟨hx0, hx1⟩)
            try (case c5_1 => exact ⟨by omega, by omega⟩)
            intro v' w' h1 h2 h3
            have HF : Hid (Fr base [] [70] w w') := h3 _ _ (hf.alloc _)
            have HS : Hid (LogSl base (i + 1 + j) w' v') := by rw [show i + 1 + j = i + j + 1 from by omega]; exact h1
            clear h1 h3
            go_wp2
            go_roundw
            case rel => exact ⟨i + 1, j, by omega, by omega, by go_num, rfl, HS.out, h2, HF.out⟩
            case measure => simp [intOf]; omega
          · go_wp2_with (first | (at_builtin; refine wpList_append_log rfl (.tmp 90) (.tmp 92) rfl base (i + j) _ u13 _ _ _ rfl rfl ?c1_2 ?c2_2 ?c3_2 ?c4_2 ?c5_2 ?c6_2 ?c7_2 ?c8_2))
            try (case c1_2 => simp)
            try (case c2_2 => exact hsl.box _)
            try (case c3_2 => exact hok'.box ⟨hx0, hx1⟩ ⟨hy0, hy1⟩)
            try (case c6_2 => omega)
            try (case c7_2 => first | omega | (simp; omega))
            try (case c4_2 => exact ⟨hx0, hx1⟩)
            try (case c5_2 => exact ⟨hy0, hy1⟩)
            intro v' w' h1 h2 h3
            have HF : Hid (Fr base [] [70] w w') := h3 _ _ (hf.alloc _)
            have HS : Hid (LogSl base (i + 1 + j) w' v') := by rw [show i + 1 + j = i + j + 1 from by omega]; exact h1
            clear h1 h3
            go_wp2
            go_roundw
            case rel => exact ⟨i + 1, j, by omega, by omega, by go_num, rfl, HS.out, h2, HF.out⟩
            case measure => simp [intOf]; omega
        · subst heq
          go_wp2
          go_quiet (fail)
          go_wp2
          go_quiet (fail)
          generalize hW : (wr.drewN _).drewN _ = W
          have hsl := (by rw [← hW]; exact hsl : LogSl base (i + j) W u13)
          have hok' := (by rw [← hW]; exact hok' : LogOK base W)
          have hf := (by rw [← hW]; exact (hf.drewN _).drewN _ : Fr base [] [70] w W)
          have hbr := (by rw [← hW]; exact hbr : base ≤ W.heap.size)
          have hx := (by rw [← hW]; exact hx : W.cell? ⟨b, i * 2, none⟩ = some (.int .u64 x))
          have hy := (by rw [← hW]; exact hy : W.cell? ⟨b, i * 2 + 1, none⟩ = some (.int .u64 y))
          have c0 := (by rw [← hW]; exact c0 : W.cell? ⟨b2, o2 + j * 3, none⟩ = some (.int .i64 sd))
          have c1 := (by rw [← hW]; exact c1 : W.cell? ⟨b2, o2 + j * 3 + 1, none⟩ = some (.int .u64 x))
          have c2' := (by rw [← hW]; exact c2' : W.cell? ⟨b2, o2 + j * 3 + 2, none⟩ = some (.int .u64 pd))
          clear hW hes' hab'
          have c2a := (fun o => Lib.cell?_alloc_some o c2' : ∀ o, (W.alloc o).cell? ⟨b2, o2 + j * 3 + 2, none⟩ = some (.int .u64 pd))
          go_wp2
          go_region
          have hz01 := bits_range .and y (bits .andNot .u64 pd to)
          generalize bits .and .u64 y (bits .andNot .u64 pd to) = z at *
          obtain ⟨X, hX⟩ : ∃ X, X = (W.alloc (.cells #[.int .u64 x, .int .u64 z] 70)).drew := ⟨_, rfl⟩
          rw [← hX]
          have x0 : X.cell? ⟨W.heap.size, 0, none⟩ = some (.int .u64 x) := by rw [hX]; simp
          have x1 : X.cell? ⟨W.heap.size, 1, none⟩ = some (.int .u64 z) := by rw [hX]; simp
          have hsl2 : LogSl base (i + j) X u13 := by rw [hX]; exact hsl.box _
          have hok2 : LogOK base X := by rw [hX]; exact hok'.box ⟨hx0, hx1⟩ hz01
          have hf2 : Fr base [] [70] w X := by rw [hX]; exact (hf.alloc _).drew
          have hbr2 : base ≤ X.heap.size := by rw [hX]; simp; omega
          clear hX hsl hok' hf hbr c2a hx hy c0 c1 c2'
          go_wp2_with (first | (at_builtin; refine wpList_append_log rfl (.tmp 49) (.tmp 51) rfl base (i + j) _ u13 _ _ _ rfl rfl ?c1_9 ?c2_9 ?c3_9 ?c4_9 ?c5_9 ?c6_9 ?c7_9 ?c8_9))
          try (case c1_9 => rfl)
          try (case c2_9 => exact hsl2)
          try (case c3_9 => exact hok2)
          try (case c4_9 => exact ⟨hx0, hx1⟩)
          try (case c5_9 => exact hz01)
          try (case c6_9 => omega)
          try (case c7_9 => omega)
          intro v' w' h1 h2 h3
          have HF : Hid (Fr base [] [70] w w') := h3 _ _ hf2
          have HS : Hid (LogSl base (i + 1 + (j + 1)) w' v') := h1.mono (by omega)
          clear h1 h3
          go_wp2
          go_roundw
          case rel => exact ⟨i + 1, j + 1, by omega, by omega, by go_num, by go_num, HS.out, h2, HF.out⟩
          case measure => simp [intOf]; omega
        · go_wp2
          go_quiet (fail)
          go_wp2
          go_quiet (fail)
          generalize hW : (wr.drewN _).drewN _ = W
          have hsl := (by rw [← hW]; exact hsl : LogSl base (i + j) W u13)
          have hok' := (by rw [← hW]; exact hok' : LogOK base W)
          have hf := (by rw [← hW]; exact (hf.drewN _).drewN _ : Fr base [] [70] w W)
          have hbr := (by rw [← hW]; exact hbr : base ≤ W.heap.size)
          have c0 := (by rw [← hW]; exact c0 : W.cell? ⟨b2, o2 + j * 3, none⟩ = some (.int .i64 sd))
          have c1 := (by rw [← hW]; exact c1 : W.cell? ⟨b2, o2 + j * 3 + 1, none⟩ = some (.int .u64 sq))
          have c2' := (by rw [← hW]; exact c2' : W.cell? ⟨b2, o2 + j * 3 + 2, none⟩ = some (.int .u64 pd))
          clear hW hes' hab'
          by_cases hp : known < sq
          · go_wp2_with (first | (at_builtin; refine wpList_append_log rfl (.tmp 122) (.tmp 130) rfl base (i + j) _ u13 _ _ _ rfl rfl ?c1_3 ?c2_3 ?c3_3 ?c4_3 ?c5_3 ?c6_3 ?c7_3 ?c8_3))
            try (case c1_3 => simp)
            try (case c2_3 => exact hsl.box _)
            try (case c3_3 => exact hok'.other _ _ (by simp))
            try (case c6_3 => omega)
            try (case c7_3 => first | omega | (simp; omega))
            try (case c4_3 => exact ⟨hq0, hq1⟩)
            try (case c5_3 => exact bits_range _ _ _)
            intro v' w' h1 h2 h3
            have HF : Hid (Fr base [] [70] w w') := h3 _ _ (hf.alloc _)
            have HS : Hid (LogSl base (i + (j + 1)) w' v') := h1
            clear h1 h3
            go_wp2
            go_roundw
            case rel => exact ⟨i, j + 1, by omega, by omega, rfl, by go_num, HS.out, h2, HF.out⟩
            case measure => simp [intOf]; omega
          · go_wp2
            go_roundw
            case rel => exact ⟨i, j + 1, by omega, by omega, rfl, by go_num, (hsl.mono (by omega)).box _, hok'.other _ _ (by simp), hf.alloc _⟩
            case measure => simp [intOf]; omega
      · obtain rfl : i = n := by omega
        have hjb : ((j : Int) == (m : Int)) = false := beq_eq_false_iff_ne.2 (by omega)
        go_wp2
        go_quiet (fail)
        go_wp2
        go_quiet (fail)
        generalize hW : (wr.drewN _).drewN _ = W
        have hsl := (by rw [← hW]; exact hsl : LogSl base (i + j) W u13)
        have hok' := (by rw [← hW]; exact hok' : LogOK base W)
        have hf := (by rw [← hW]; exact (hf.drewN _).drewN _ : Fr base [] [70] w W)
        have hbr := (by rw [← hW]; exact hbr : base ≤ W.heap.size)
        have c0 := (by rw [← hW]; exact c0 : W.cell? ⟨b2, o2 + j * 3, none⟩ = some (.int .i64 sd))
        have c1 := (by rw [← hW]; exact c1 : W.cell? ⟨b2, o2 + j * 3 + 1, none⟩ = some (.int .u64 sq))
        have c2' := (by rw [← hW]; exact c2' : W.cell? ⟨b2, o2 + j * 3 + 2, none⟩ = some (.int .u64 pd))
        clear hW hes' hab'
        by_cases hp : known < sq
        · go_wp2_with (first | (at_builtin; refine wpList_append_log rfl (.tmp 122) (.tmp 130) rfl base (i + j) _ u13 _ _ _ rfl rfl ?c1_4 ?c2_4 ?c3_4 ?c4_4 ?c5_4 ?c6_4 ?c7_4 ?c8_4))
          try (case c1_4 => simp)
          try (case c2_4 => exact hsl.box _)
          try (case c3_4 => exact hok'.other _ _ (by simp))
          try (case c6_4 => omega)
          try (case c7_4 => first | omega | (simp; omega))
          try (case c4_4 => exact ⟨hq0, hq1⟩)
          try (case c5_4 => exact bits_range _ _ _)
          intro v' w' h1 h2 h3
          have HF : Hid (Fr base [] [70] w w') := h3 _ _ (hf.alloc _)
          have HS : Hid (LogSl base (i + (j + 1)) w' v') := h1
          clear h1 h3
          go_wp2
          go_roundw
          case rel => exact ⟨i, j + 1, by omega, by omega, rfl, by go_num, HS.out, h2, HF.out⟩
          case measure => simp [intOf]; omega
        · go_wp2
          go_roundw
          case rel => exact ⟨i, j + 1, by omega, by omega, rfl, by go_num, (hsl.mono (by omega)).box _, hok'.other _ _ (by simp), hf.alloc _⟩
          case measure => simp [intOf]; omega
    · obtain rfl : j = m := by omega
      by_cases hin : i < n
      · rcases id hes' with h | ⟨b, n', c', cur, h1, _⟩
        · simp at h; omega
        simp only [Value.slice.injEq] at h1
        obtain ⟨rfl, rfl, rfl⟩ := h1
        obtain ⟨hb', hnc, _, hfz, x, y, hx, hy, hx0, hx1, hy0, hy1⟩ := hes'.cells hok' i hin
        go_wp2
        go_quiet (fail)
        generalize hW : wr.drewN _ = W
        have hsl := (by rw [← hW]; exact hsl : LogSl base (i + j) W u13)
        have hok' := (by rw [← hW]; exact hok' : LogOK base W)
        have hf := (by rw [← hW]; exact hf.drewN _ : Fr base [] [70] w W)
        have hbr := (by rw [← hW]; exact hbr : base ≤ W.heap.size)
        have hx := (by rw [← hW]; exact hx : W.cell? ⟨b, i * 2, none⟩ = some (.int .u64 x))
        have hy := (by rw [← hW]; exact hy : W.cell? ⟨b, i * 2 + 1, none⟩ = some (.int .u64 y))
        clear hW hes' hab'
        by_cases hp : x ≤ past
        · go_wp2_with (first | (at_builtin; refine wpList_append_log rfl (.tmp 90) (.tmp 92) rfl base (i + j) _ u13 _ _ _ rfl rfl ?c1_5 ?c2_5 ?c3_5 ?c4_5 ?c5_5 ?c6_5 ?c7_5 ?c8_5))
          try (case c1_5 => simp)
          try (case c2_5 => exact hsl.box _)
          try (case c3_5 => exact hok'.box ⟨hx0, hx1⟩ ⟨by omega, by omega⟩)
          try (case c6_5 => omega)
          try (case c7_5 => first | omega | (simp; omega))
          try (case c4_5 => exact ⟨hx0, hx1⟩)
          try (case c5_5 => exact ⟨by omega, by omega⟩)
          intro v' w' h1 h2 h3
          have HF : Hid (Fr base [] [70] w w') := h3 _ _ (hf.alloc _)
          have HS : Hid (LogSl base (i + 1 + j) w' v') := by rw [show i + 1 + j = i + j + 1 from by omega]; exact h1
          clear h1 h3
          go_wp2
          go_roundw
          case rel => exact ⟨i + 1, j, by omega, by omega, by go_num, rfl, HS.out, h2, HF.out⟩
          case measure => simp [intOf]; omega
        · go_wp2_with (first | (at_builtin; refine wpList_append_log rfl (.tmp 90) (.tmp 92) rfl base (i + j) _ u13 _ _ _ rfl rfl ?c1_6 ?c2_6 ?c3_6 ?c4_6 ?c5_6 ?c6_6 ?c7_6 ?c8_6))
          try (case c1_6 => simp)
          try (case c2_6 => exact hsl.box _)
          try (case c3_6 => exact hok'.box ⟨hx0, hx1⟩ ⟨hy0, hy1⟩)
          try (case c6_6 => omega)
          try (case c7_6 => first | omega | (simp; omega))
          try (case c4_6 => exact ⟨hx0, hx1⟩)
          try (case c5_6 => exact ⟨hy0, hy1⟩)
          intro v' w' h1 h2 h3
          have HF : Hid (Fr base [] [70] w w') := h3 _ _ (hf.alloc _)
          have HS : Hid (LogSl base (i + 1 + j) w' v') := by rw [show i + 1 + j = i + j + 1 from by omega]; exact h1
          clear h1 h3
          go_wp2
          go_roundw
          case rel => exact ⟨i + 1, j, by omega, by omega, by go_num, rfl, HS.out, h2, HF.out⟩
          case measure => simp [intOf]; omega
      · obtain rfl : i = n := by omega
        have hO' : Ob wr O s logged holding holders scr fifo barred := hO.fr hf (by simp) (by simp)
        obtain ⟨a1, c1, hv1, hsl1⟩ := log_cut hsl
        have HX : Hid (∀ (v' : Value) (w' : World), LogSl base (0 + (i + j)) w' v' → LogOK base w' → (∀ (S : List Nat) (w0 : World), Fr base S [70] w0 wr → Fr base S [70] w0 w') →
            MergePost base O (N + j) s logged holding holders fifo barred w (.returned v') (w'.setCell ⟨O, 14, none⟩ (.slice a1 0 c1)) ∧ w'.frozen? ⟨O, 14, none⟩ = false ∧ w'.cell? ⟨O, 14, none⟩ = some scr) := by
          intro v' w' h1 h2 h3
          have h4 : Fr base [O] [70] w w' := (h3 [] w hf).wider (by simp) (by simp)
          have h5 : Fr base [] [70] wr w' := h3 [] wr (Fr.refl _ _ _ _)
          have hO2 : Ob w' O s logged holding holders scr fifo barred := hO'.fr h5 (by simp) (by simp)
          have h6 : Fr base [O] [70] w (w'.setCell ⟨O, 14, none⟩ (.slice a1 0 c1)) := h4.setCell hO2 _ hbO (.inl (by simp))
          have h7 : Fr base [O] [70] w' (w'.setCell ⟨O, 14, none⟩ (.slice a1 0 c1)) := (Fr.refl _ _ _ _).setCell hO2 _ hbO (.inl (by simp))
          refine ⟨⟨v', _, rfl, (h1.fr h7).mono (by omega), (hsl1.fr h5).fr h7, hO2.setScr _, h2.setCell hO2 _ (fun e => by simp at e), h6⟩, hO2.free _, hO2.at 14⟩
        rcases id hes' with h | ⟨b, n', c', cur, h1, g2, g3, g4, g5, g6, g7⟩
        · simp only [Value.slice.injEq] at h
          obtain ⟨rfl, rfl, rfl⟩ := h
          go_wp2_with (first | (at_builtin; refine wpList_append_logs rfl (.tmp 135) (.tmp 136) rfl base 0 (0 + j) _ u13 wr rfl rfl (.inl rfl) hsl hok' (by omega) (by omega) hbr ?_))
          intro v' w' h1 h2 h3
          obtain ⟨hpost, hfr, hce⟩ := HX.out v' w' (h1.mono (by omega)) h2 h3
          clear h1 h2 h3 hO'
          go_wp2
          go_ret
          exact hpost
        · simp only [Value.slice.injEq] at h1
          obtain ⟨rfl, rfl, rfl⟩ := h1
          go_wp2_with (first | (at_builtin; refine wpList_append_logs rfl (.tmp 135) (.tmp 136) rfl base 0 (i + j) _ u13 wr rfl rfl (.inr ⟨b, 0, c, cur, rfl, g2, g3, by omega, g5, g6, by omega⟩) hsl hok' (by omega) (by omega) hbr ?_))
          intro v' w' h1 h2 h3
          obtain ⟨hpost, hfr, hce⟩ := HX.out v' w' (h1.mono (by omega)) h2 h3
          clear h1 h2 h3 hO'
          go_wp2
          go_ret
          exact hpost

end Go.Proofs.YbulkbobqFmt
