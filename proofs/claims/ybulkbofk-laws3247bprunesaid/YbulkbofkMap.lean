/- Maps whose keys come out of a finite table: block b holds f (index of the key to the element), and the steps of a range over such a map. -/
import Derived.Maps.RangeWalk
namespace Go.Proofs.Ybulkbofk
open Go.ChangeMaps Go.MapKept Go.WideShapes
open Go.Maps (Keyed)

structure Tab (P : Program) (k : TypeId) (N : Nat) (nm : Nat → Value) : Prop where
  K : Keyed P k
  key : ∀ i, i < N → ∃ l, keyOf P k (nm i) = some l
  inj : ∀ i j, i < N → j < N → nm i = nm j → i = j

def upd (f : Nat → Option Value) (i : Nat) (v : Option Value) : Nat → Option Value := fun j => if j = i then v else f j

/-- The entries hold f. -/
structure Ent (es : Array MapEntry) (clock N : Nat) (nm : Nat → Value) (f : Nat → Option Value) : Prop where
  st : Stamped es clock
  to : ∀ e ∈ es.toList, ∃ i, i < N ∧ e.key = nm i ∧ f i = some e.val
  from' : ∀ i v, i < N → f i = some v → ∃ e ∈ es.toList, e.key = nm i ∧ e.val = v

def MapT (w : World) (b N : Nat) (nm : Nat → Value) (f : Nat → Option Value) : Prop :=
  ∃ es clock, w.heap[b]? = some (.map es clock) ∧ Ent es clock N nm f

def cntT (N : Nat) (f : Nat → Option Value) : Nat := ((List.range N).filter (fun i => (f i).isSome)).length

section
variable {P : Program} {k : TypeId} {N : Nat} {nm : Nat → Value} {f : Nat → Option Value} {es : Array MapEntry} {clock : Nat} {w : World} {b : Nat}

theorem MapT.lt (h : MapT w b N nm f) : b < w.heap.size := by
  obtain ⟨es, clock, hb, _⟩ := h
  exact (Array.getElem?_eq_some_iff.1 hb).1

theorem MapT.kept {w' : World} (h : MapT w b N nm f) (hk : w'.heap[b]? = w.heap[b]?) : MapT w' b N nm f := by
  obtain ⟨es, clock, hb, E⟩ := h
  exact ⟨es, clock, hk.trans hb, E⟩

theorem MapT.congr {g : Nat → Option Value} (h : MapT w b N nm f) (hfg : ∀ i, i < N → f i = g i) : MapT w b N nm g := by
  obtain ⟨es, clock, hb, E⟩ := h
  refine ⟨es, clock, hb, E.st, fun e he => ?_, fun i v hi hv => E.from' i v hi ((hfg i hi).trans hv)⟩
  obtain ⟨i, hi, h1, h2⟩ := E.to e he
  exact ⟨i, hi, h1, (hfg i hi) ▸ h2⟩

theorem Ent.count (T : Tab P k N nm) (E : Ent es clock N nm f) : es.size = cntT N f := by
  obtain ⟨ix, hix⟩ : ∃ ix : MapEntry → Nat, ∀ e ∈ es.toList, ix e < N ∧ e.key = nm (ix e) ∧ f (ix e) = some e.val := by
    classical
    refine ⟨fun e => if h : ∃ i, i < N ∧ e.key = nm i ∧ f i = some e.val then Classical.choose h else 0, fun e he => ?_⟩
    have h := E.to e he
    simp only [dif_pos h]
    exact Classical.choose_spec h
  have hn := ((stamped_iff es clock).1 E.st).2.2
  have p1 : (es.toList.map ix).Nodup := by
    rw [List.Nodup, List.pairwise_map]
    refine hn.imp_of_mem ?_
    intro x y hx hy hne e
    exact hne ((hix x hx).2.1.trans ((congrArg nm e).trans (hix y hy).2.1.symm))
  have p2 : ((List.range N).filter (fun i => (f i).isSome)).Nodup := List.Pairwise.filter _ List.nodup_range
  have p3 := (List.perm_ext_iff_of_nodup p1 p2).2 (fun i => by
    constructor
    · intro hi
      obtain ⟨e, he, rfl⟩ := List.mem_map.1 hi
      obtain ⟨h1, h2, h3⟩ := hix e he
      exact List.mem_filter.2 ⟨List.mem_range.2 h1, by rw [h3]; rfl⟩
    · intro hi
      obtain ⟨h1, h2⟩ := List.mem_filter.1 hi
      have h1 := List.mem_range.1 h1
      obtain ⟨v, hv⟩ := Option.isSome_iff_exists.1 h2
      obtain ⟨e, he, h3, _⟩ := E.from' i v h1 hv
      obtain ⟨g1, g2, g3⟩ := hix e he
      exact List.mem_map.2 ⟨e, he, T.inj _ _ g1 h1 (g2.symm.trans h3)⟩)
  have := p3.length_eq
  simpa [cntT] using this

theorem Ent.find (T : Tab P k N nm) (E : Ent es clock N nm f) (w : World) {i : Nat} (hi : i < N) :
    ((Instr.findKey k (nm i) es.toList).run P w = .ok none w ∧ f i = none ∧ ∀ e ∈ es.toList, e.key ≠ nm i) ∨
    ∃ j e, (Instr.findKey k (nm i) es.toList).run P w = .ok (some (j, e.val)) w ∧ es.toList[j]? = some e ∧ e.key = nm i ∧ f i = some e.val := by
  obtain ⟨l, hl⟩ := T.key i hi
  have hks : ∀ e ∈ es.toList, ∃ l, keyOf P k e.key = some l := fun e he => by
    obtain ⟨i', h1, h2, _⟩ := E.to e he
    obtain ⟨l, hl⟩ := T.key i' h1
    exact ⟨l, by rw [h2]; exact hl⟩
  rcases T.K.find w hl es.toList hks with ⟨h1, h2⟩ | ⟨j, e, h1, h2, h3⟩
  · refine .inl ⟨h1, ?_, h2⟩
    cases hf : f i with
    | none => rfl
    | some v =>
      obtain ⟨e, he, h3, _⟩ := E.from' i v hi hf
      exact absurd h3 (h2 e he)
  · refine .inr ⟨j, e, h1, h2, h3, ?_⟩
    obtain ⟨i', g1, g2, g3⟩ := E.to e (List.mem_of_getElem? h2)
    rw [← T.inj _ _ g1 hi (g2.symm.trans h3)]
    exact g3

theorem MapT.look (T : Tab P k N nm) (h : MapT w b N nm f) {t e : TypeId} (ht : P.underlying t = some (.map k e)) {z : Value} (hz : (zeroValue e).run P w = .ok z w) {i : Nat} (hi : i < N) (c : Bool) :
    (Instr.lookup t (.map (some b)) (nm i) c).run P w = .ok (if c then .tuple #[(f i).getD z, .bool (f i).isSome] else (f i).getD z) w := by
  obtain ⟨es, clock, hb, E⟩ := h
  obtain ⟨l, hl⟩ := T.key i hi
  rcases E.find T w hi with ⟨h1, h2, _⟩ | ⟨j, e0, h1, _, _, h2⟩
  · simp [Instr.lookup, run_underlying ht, MapKept.run_getObj_map hb, T.K.check w _ hl, h1, hz, h2, Result.andThen]
  · simp [Instr.lookup, run_underlying ht, MapKept.run_getObj_map hb, T.K.check w _ hl, h1, h2, Result.andThen]

theorem MapT.len (T : Tab P k N nm) (h : MapT w b N nm f) {t e : TypeId} (ht : P.underlying t = some (.map k e)) (ty : TypeId) : (Builtin.len_ #[t] ty #[.map (some b)]).run P w = .ok (.int .i64 (cntT N f)) w := by
  obtain ⟨es, clock, hb, E⟩ := h
  rw [← E.count T]
  simp [Builtin.len_, run_underlying ht, MapKept.run_getObj_map hb, goInt, Result.andThen]

theorem MapT.put (T : Tab P k N nm) (h : MapT w b N nm f) {t e : TypeId} (ht : P.underlying t = some (.map k e)) {i : Nat} (hi : i < N) (val : Value) :
    ∃ w', (Instr.mapUpdate t (.map (some b)) (nm i) val).run P w = .ok () w' ∧ MapT w' b N nm (upd f i (some val)) ∧ w.mapTurned w' b := by
  obtain ⟨es, clock, hb, E⟩ := h
  obtain ⟨l, hl⟩ := T.key i hi
  rcases E.find T w hi with ⟨h1, h2, hno⟩ | ⟨j, e0, h1, hj, hk0, h2⟩
  · refine ⟨setBlock w b (.map (es.push { key := nm i, val := val, born := clock }) (clock + 1)), ?_, ⟨_, _, heap_setBlock_same hb _, ?_⟩, ⟨es, clock, _, _, hb, rfl⟩⟩
    · simp [Instr.mapUpdate, run_underlying ht, MapKept.run_getObj_map hb, T.K.check w _ hl, h1, MapKept.run_setObj_map _ hb, Result.andThen, setBlock]
    · refine ⟨stamped_push E.st hno, fun x hx => ?_, fun i' v hi' hv => ?_⟩
      · rw [Array.toList_push, List.mem_append, List.mem_singleton] at hx
        rcases hx with hx | rfl
        · obtain ⟨i', g1, g2, g3⟩ := E.to x hx
          have : i' ≠ i := fun e => hno x hx (e ▸ g2)
          exact ⟨i', g1, g2, by simp [upd, this, g3]⟩
        · exact ⟨i, hi, rfl, by simp [upd]⟩
      · by_cases he : i' = i
        · subst he
          simp [upd] at hv
          exact ⟨{ key := nm i', val := val, born := clock }, by simp, rfl, hv⟩
        · simp [upd, he] at hv
          obtain ⟨x, hx, g⟩ := E.from' i' v hi' hv
          exact ⟨x, by simp [Array.mem_toList_iff.1 hx], g⟩
  · have hjl : j < es.toList.length := (List.getElem?_eq_some_iff.1 hj).1
    have hjs : j < es.size := by simpa using hjl
    have hje : es[j]? = some e0 := by rw [← Array.getElem?_toList]; exact hj
    have hst : (Instr.keyThatStays (((es[j]?).map (·.key)).getD (nm i)) (nm i)).run P w = .ok (nm i) w := by
      rw [hje]
      simp only [Option.map_some, Option.getD_some, hk0]
      exact T.K.stays w hl
    refine ⟨setBlock w b (.map (es.modify j fun e => { e with key := nm i, val := val }) clock), ?_, ⟨_, _, heap_setBlock_same hb _, ?_⟩, ⟨es, clock, _, _, hb, rfl⟩⟩
    · simp [Instr.mapUpdate, run_underlying ht, MapKept.run_getObj_map hb, T.K.check w _ hl, h1, hst, MapKept.run_setObj_map _ hb, Result.andThen, setBlock]
    · have hget : ∀ m, (es.modify j fun e => { e with key := nm i, val := val }).toList[m]? = if m = j then some { e0 with key := nm i, val := val } else es.toList[m]? := by
        intro m
        rw [Array.getElem?_toList, Array.getElem?_modify]
        by_cases hm : j = m
        · subst hm
          simp [hje]
        · simp [hm, Ne.symm hm]
      refine ⟨stamped_modify E.st j _ (fun _ _ => rfl) (fun e he hje' => ?_), fun x hx => ?_, fun i' v hi' hv => ?_⟩
      · rw [hje] at hje'
        cases hje'
        exact hk0.symm
      · obtain ⟨m, hm⟩ := List.getElem?_of_mem hx
        rw [hget] at hm
        by_cases e : m = j
        · simp [e] at hm
          subst hm
          exact ⟨i, hi, rfl, by simp [upd]⟩
        · simp [e] at hm
          have hm' : es.toList[m]? = some x := by rw [Array.getElem?_toList]; exact hm
          obtain ⟨i', g1, g2, g3⟩ := E.to x (List.mem_of_getElem? hm')
          have hne : i' ≠ i := fun ei => by
            have hkk : x.key = e0.key := by rw [g2, ei, hk0]
            have hp := ((stamped_iff es clock).1 E.st).2.2
            have := entry_eq_of_key hp (List.mem_of_getElem? hm') (List.mem_of_getElem? hj) hkk
            subst this
            have hnd := ((stamped_iff es clock).1 E.st).2.2
            have hlt1 := (List.getElem?_eq_some_iff.1 hm').1
            rcases Nat.lt_or_gt_of_ne e with hlt | hlt
            · have := List.pairwise_iff_getElem.1 hnd m j hlt1 hjl hlt
              rw [(List.getElem?_eq_some_iff.1 hm').2, (List.getElem?_eq_some_iff.1 hj).2] at this
              exact this rfl
            · have := List.pairwise_iff_getElem.1 hnd j m hjl hlt1 hlt
              rw [(List.getElem?_eq_some_iff.1 hm').2, (List.getElem?_eq_some_iff.1 hj).2] at this
              exact this rfl
          exact ⟨i', g1, g2, by simp [upd, hne, g3]⟩
      · by_cases he : i' = i
        · subst he
          simp [upd] at hv
          exact ⟨{ e0 with key := nm i', val := val }, List.mem_of_getElem? (i := j) (by rw [hget]; simp), rfl, hv⟩
        · simp [upd, he] at hv
          obtain ⟨x, hx, g1, g2⟩ := E.from' i' v hi' hv
          obtain ⟨m, hm⟩ := List.getElem?_of_mem hx
          have hmj : m ≠ j := fun e => by
            subst e
            rw [hj] at hm
            cases hm
            exact he (T.inj _ _ hi' hi (g1.symm.trans hk0))
          exact ⟨x, List.mem_of_getElem? (i := m) (by rw [hget]; simp [hmj]; rw [Array.getElem?_toList] at hm; exact hm), g1, g2⟩

/-- 'delete', and who is left. -/
theorem Ent.drop (T : Tab P k N nm) (hb : w.heap[b]? = some (.map es clock)) (E : Ent es clock N nm f) {t e ty : TypeId} (ht : P.underlying t = some (.map k e)) {i : Nat} (hi : i < N) :
    ∃ es', (Builtin.delete_ #[t, k] ty #[.map (some b), nm i]).run P w = .ok (.tuple #[]) (setBlock w b (.map es' clock)) ∧ Ent es' clock N nm (upd f i none) ∧ es'.toList.Sublist es.toList := by
  obtain ⟨l, hl⟩ := T.key i hi
  rcases E.find T w hi with ⟨h1, h2, hno⟩ | ⟨j, e0, h1, hj, hk0, h2⟩
  · refine ⟨es, ?_, ⟨E.st, fun x hx => ?_, fun i' v hi' hv => ?_⟩, List.Sublist.refl _⟩
    · simp [Builtin.delete_, run_underlying ht, MapKept.run_getObj_map hb, T.K.check w _ hl, h1, MapKept.run_setObj_map _ hb, Result.andThen, setBlock]
    · obtain ⟨i', g1, g2, g3⟩ := E.to x hx
      have : i' ≠ i := fun e => hno x hx (e ▸ g2)
      exact ⟨i', g1, g2, by simp [upd, this, g3]⟩
    · by_cases he : i' = i
      · simp [upd, he] at hv
      · simp [upd, he] at hv
        exact E.from' i' v hi' hv
  · have hjl : j < es.toList.length := (List.getElem?_eq_some_iff.1 hj).1
    have hjs : j < es.size := by simpa using hjl
    have hsub : (es.eraseIdxIfInBounds j).toList = es.toList.eraseIdx j := by
      unfold Array.eraseIdxIfInBounds
      rw [dif_pos hjs]
      simp
    have hnd := ((stamped_iff es clock).1 E.st).2.2
    refine ⟨es.eraseIdxIfInBounds j, ?_, ⟨stamped_erase E.st j, fun x hx => ?_, fun i' v hi' hv => ?_⟩, by rw [hsub]; exact List.eraseIdx_sublist _ _⟩
    · simp [Builtin.delete_, run_underlying ht, MapKept.run_getObj_map hb, T.K.check w _ hl, h1, MapKept.run_setObj_map _ hb, Result.andThen, setBlock]
    · rw [hsub, List.mem_eraseIdx_iff_getElem?] at hx
      obtain ⟨m, hmj, hm⟩ := hx
      obtain ⟨i', g1, g2, g3⟩ := E.to x (List.mem_of_getElem? hm)
      have hne : i' ≠ i := fun ei => by
        have hkk : x.key = e0.key := by rw [g2, ei, hk0]
        have hlt1 := (List.getElem?_eq_some_iff.1 hm).1
        rcases Nat.lt_or_gt_of_ne hmj with hlt | hlt
        · have := List.pairwise_iff_getElem.1 hnd m j hlt1 hjl hlt
          rw [(List.getElem?_eq_some_iff.1 hm).2, (List.getElem?_eq_some_iff.1 hj).2] at this
          exact this hkk
        · have := List.pairwise_iff_getElem.1 hnd j m hjl hlt1 hlt
          rw [(List.getElem?_eq_some_iff.1 hm).2, (List.getElem?_eq_some_iff.1 hj).2] at this
          exact this hkk.symm
      exact ⟨i', g1, g2, by simp [upd, hne, g3]⟩
    · by_cases he : i' = i
      · simp [upd, he] at hv
      · simp [upd, he] at hv
        obtain ⟨x, hx, g1, g2⟩ := E.from' i' v hi' hv
        obtain ⟨m, hm⟩ := List.getElem?_of_mem hx
        refine ⟨x, ?_, g1, g2⟩
        rw [hsub, List.mem_eraseIdx_iff_getElem?]
        refine ⟨m, fun e => ?_, hm⟩
        subst e
        rw [hj] at hm
        cases hm
        exact he (T.inj _ _ hi' hi (g1.symm.trans hk0))

theorem MapT.del (T : Tab P k N nm) (h : MapT w b N nm f) {t e ty : TypeId} (ht : P.underlying t = some (.map k e)) {i : Nat} (hi : i < N) :
    ∃ w', (Builtin.delete_ #[t, k] ty #[.map (some b), nm i]).run P w = .ok (.tuple #[]) w' ∧ MapT w' b N nm (upd f i none) ∧ w.mapTurned w' b := by
  obtain ⟨es, clock, hb, E⟩ := h
  obtain ⟨es', hrun, E', _⟩ := Ent.drop T hb E (ty := ty) ht hi
  exact ⟨_, hrun, ⟨es', clock, heap_setBlock_same hb _, E'⟩, ⟨es, clock, es', clock, hb, rfl⟩⟩

/-! ### a range under way -/
def RngT (w : World) (b r N : Nat) (nm : Nat → Value) (f : Nat → Option Value) (left : Nat → Bool) (cnt : Nat) : Prop :=
  ∃ es clock since seen c0, w.heap[b]? = some (.map es clock) ∧ Ent es clock N nm f ∧ w.heap[r]? = some (.mapIter (some b) since seen c0) ∧ (∀ x ∈ es.toList, x.born < since) ∧ (leftOf es seen).size = cnt ∧
    (∀ x ∈ es.toList, ∀ i, i < N → x.key = nm i → left i = !seen.contains x.born) ∧ (∀ i, i < N → f i = none → left i = false) ∧ since ≤ c0 ∧ since ≤ clock

variable {r cnt : Nat} {left : Nat → Bool}

theorem RngT.map (h : RngT w b r N nm f left cnt) : MapT w b N nm f := by
  obtain ⟨es, clock, _, _, _, hb, E, _⟩ := h
  exact ⟨es, clock, hb, E⟩

theorem RngT.ne (h : RngT w b r N nm f left cnt) : r ≠ b := by
  obtain ⟨es, clock, since, seen, c0, hb, _, hr, _⟩ := h
  intro e
  rw [e, hb] at hr
  cases hr

theorem RngT.lt (h : RngT w b r N nm f left cnt) : r < w.heap.size := by
  obtain ⟨es, clock, since, seen, c0, _, _, hr, _⟩ := h
  exact (Array.getElem?_eq_some_iff.1 hr).1

theorem RngT.kept {w' : World} (h : RngT w b r N nm f left cnt) (hb' : w'.heap[b]? = w.heap[b]?) (hr' : w'.heap[r]? = w.heap[r]?) : RngT w' b r N nm f left cnt := by
  obtain ⟨es, clock, since, seen, c0, hb, E, hr, rest⟩ := h
  exact ⟨es, clock, since, seen, c0, hb'.trans hb, E, hr'.trans hr, rest⟩

theorem RngT.left_eq (h : RngT w b r N nm f left cnt) : w.rangeLeft b r = cnt := by
  obtain ⟨es, clock, since, seen, c0, hb, _, hr, _, hc, _⟩ := h
  simp only [World.rangeLeft, hb, hr]
  exact hc

theorem MapT.range (T : Tab P k N nm) (h : MapT w b N nm f) {t e : TypeId} (ht : P.underlying t = some (.map k e)) :
    ∃ w' cnt, (Instr.range t (.map (some b))).run P w = .ok (.pointer (some ⟨w.heap.size, 0, none⟩)) w' ∧ RngT w' b w.heap.size N nm f (fun i => (f i).isSome) cnt ∧ w.grownBy w' none ∧ w'.heap.size = w.heap.size + 1 := by
  have hlt := h.lt
  obtain ⟨es, clock, hb, E⟩ := h
  refine ⟨_, _, run_range_map w t k e b es clock ht hb, ⟨es, clock, clock, #[], clock, ((MapKept.heap_alloc w _).2 b hlt).trans hb, E, (MapKept.heap_alloc w _).1, E.st.1, rfl, ?_, ?_, Nat.le_refl _, Nat.le_refl _⟩, World.grownBy_alloc w _ none, by simp⟩
  · intro x hx i hi hk
    obtain ⟨i', g1, g2, g3⟩ := E.to x hx
    obtain rfl := T.inj _ _ hi g1 (hk.symm.trans g2)
    simp [g3]
  · intro i hi hf
    simp [hf]

def strike (left : Nat → Bool) (i : Nat) : Nat → Bool := fun j => if j = i then false else left j

theorem RngT.next (T : Tab P k N nm) (h : RngT w b r N nm f left cnt) (ty : TypeId) :
    (cnt = 0 ∧ (∀ i, i < N → left i = false) ∧ (Instr.next (.pointer (some ⟨r, 0, none⟩)) false ty).run P w = .ok (.tuple #[.bool false]) w) ∨
    ∃ i v w' cnt', i < N ∧ left i = true ∧ f i = some v ∧ (Instr.next (.pointer (some ⟨r, 0, none⟩)) false ty).run P w = .ok (.tuple #[.bool true, nm i, v]) w' ∧
      RngT w' b r N nm f (strike left i) cnt' ∧ cnt' < cnt ∧ w.grownBy w' (some r) ∧ w'.heap.size = w.heap.size ∧ (Instr.entry (.pointer (some ⟨r, 0, none⟩))).run P w' = .ok (.tuple #[nm i, v]) w' := by
  have hne := h.ne
  obtain ⟨es, clock, since, seen, c0, hb, E, hr, hold, rfl, hl1, hl2, hsc, hsk⟩ := h
  rcases run_next_at (P := P) w ty r b since c0 seen es clock hr hb hold hsc with ⟨h0, hrun⟩ | ⟨e, he, w1, hal, hrun⟩
  · refine Or.inl ⟨h0, fun i hi => ?_, hrun⟩
    cases hf : f i with
    | none => exact hl2 i hi hf
    | some v =>
      obtain ⟨x, hx, g1, _⟩ := E.from' i v hi hf
      rw [hl1 x hx i hi g1, all_seen es seen h0 x hx]
      rfl
  · obtain ⟨hem, hes⟩ := mem_left he
    obtain ⟨i, g1, g2, g3⟩ := E.to e hem
    have hst := (stamped_iff es clock).1 E.st
    have hr1 : w1.heap[r]? = some (.mapIter (some b) since seen c0) := by rcases hal with rfl | rfl <;> exact hr
    have hb1 : w1.heap[b]? = some (.map es clock) := by rcases hal with rfl | rfl <;> exact hb
    have hset := heap_set (o' := .mapIter (some b) since (seen.push e.born) clock) hr1
    have hb' : (setBlock w1 r (.mapIter (some b) since (seen.push e.born) clock)).heap[b]? = some (.map es clock) := (hset.2 b (fun e1 => hne e1.symm)).trans hb1
    rw [g2] at hrun
    refine Or.inr ⟨i, e.val, _, _, g1, by rw [hl1 e hem i g1 g2, hes]; rfl, g3, hrun,
      ⟨es, clock, since, seen.push e.born, clock, hb', E, hset.1, hold, rfl, fun x hx j hj hjk => ?_, fun j hj hjf => ?_, hsk, hsk⟩, left_shrinks es seen e he, ?_, ?_,
      by rw [← g2]; exact run_entry_at _ r b since seen es clock e hset.1 hb' hem hst.2.1⟩
    · rw [contains_push]
      unfold strike
      by_cases hji : j = i
      · subst hji
        obtain rfl := entry_eq_of_key hst.2.2 hx hem (hjk.trans g2.symm)
        simp
      · have hne' : x.born ≠ e.born := fun eb => by
          obtain rfl := born_inj hst.2.1 hx hem eb
          exact hji (T.inj _ _ hj g1 (hjk.symm.trans g2))
        simp [hji, hne', hl1 x hx j hj hjk]
    · unfold strike
      simp [hl2 j hj hjf]
    · rcases hal with rfl | rfl <;> exact ⟨rfl, rfl, rfl, by simp [setBlock], fun i _ hi => hset.2 i (fun e1 => hi (by rw [e1]))⟩
    · rcases hal with rfl | rfl <;> simp [setBlock]

theorem RngT.del (T : Tab P k N nm) (h : RngT w b r N nm f left cnt) {t e ty : TypeId} (ht : P.underlying t = some (.map k e)) {i : Nat} (hi : i < N) :
    ∃ w' cnt', (Builtin.delete_ #[t, k] ty #[.map (some b), nm i]).run P w = .ok (.tuple #[]) w' ∧ RngT w' b r N nm (upd f i none) (strike left i) cnt' ∧ cnt' ≤ cnt ∧ w.mapTurned w' b := by
  have hne := h.ne
  obtain ⟨es, clock, since, seen, c0, hb, E, hr, hold, rfl, hl1, hl2, hsc, hsk⟩ := h
  obtain ⟨es', hrun, E', hsub⟩ := Ent.drop T hb E (ty := ty) ht hi
  refine ⟨_, _, hrun, ⟨es', clock, since, seen, c0, heap_setBlock_same hb _, E', (heap_setBlock_other hb _ hne).trans hr, fun x hx => hold x (hsub.subset hx), rfl, fun x hx j hj hjk => ?_, fun j hj hjf => ?_, hsc, hsk⟩, ?_, ⟨es, clock, es', clock, hb, rfl⟩⟩
  · obtain ⟨j', g1, g2, g3⟩ := E'.to x hx
    obtain rfl := T.inj _ _ hj g1 (hjk.symm.trans g2)
    have hji : j ≠ i := fun e => by simp [upd, e] at g3
    simp only [strike, hji, if_false]
    exact hl1 x (hsub.subset hx) j hj hjk
  · unfold strike
    by_cases hji : j = i
    · simp [hji]
    · simp [upd, hji] at hjf
      simp [hji, hl2 j hj hjf]
  · have : (leftOf es' seen).toList.Sublist (leftOf es seen).toList := by
      unfold leftOf
      rw [Array.toList_filter, Array.toList_filter]
      exact hsub.filter _
    simpa using this.length_le

theorem look_nil (K : Keyed P k) {t e : TypeId} (ht : P.underlying t = some (.map k e)) {z : Value} (hz : (zeroValue e).run P w = .ok z w) {key : Value} {kl : Lit} (hkey : keyOf P k key = some kl) :
    (Instr.lookup t (.map none) key false).run P w = .ok z w := by
  have := Maps.look_nil false K ht hz hkey
  simpa using this

end
end Go.Proofs.Ybulkbofk
