/- The laws of YbulkbofkMap at the operations, for the walk. -/
import Derived.Test.YbulkbofkMap
namespace Go.Proofs.Ybulkbofk
open Go.ChangeMaps Go.MapKept Go.WideShapes
open Go.Maps (Keyed)

section
variable {P : Program} (w : World) {ops : Array Oper} {rest : List Oper} {o : Oper} {a : Act} {Q : Exit → Act → World → Prop} {k : TypeId} {N : Nat} {nm : Nat → Value} {f : Nat → Option Value} {left : Nat → Bool} {cnt : Nat}

theorem wpList_lookT (hg : o.guard = none) (m x : Operand) (t : TypeId) (hop : o.op = Op.lookup t m x false) (e : TypeId) (T : Tab P k N nm) (ht : P.underlying t = some (.map k e)) {z : Value} (hz : (zeroValue e).run P w = .ok z w) (b : Nat) (h : MapT w b N nm f)
    (hm : a.eval m = .map (some b)) (i : Nat) (hi : i < N) (hx : a.eval x = nm i) (u : Value) (hu : (f i).getD z = u) (hK : wpList P ops Q rest (a.put o.dst u) w) : wpList P ops Q (o :: rest) a w := by
  subst hu
  refine wpList_plain hg fun K' hK' => ?_
  have hrun := h.look T ht hz hi false
  unfold Oper.wp
  simp [execOp, hop, hm, hx, hrun, Result.andThen]
  exact hK' _ _ hK

theorem wpList_lookTok (hg : o.guard = none) (m x : Operand) (t : TypeId) (hop : o.op = Op.lookup t m x true) (e : TypeId) (T : Tab P k N nm) (ht : P.underlying t = some (.map k e)) {z : Value} (hz : (zeroValue e).run P w = .ok z w) (b : Nat) (h : MapT w b N nm f)
    (hm : a.eval m = .map (some b)) (i : Nat) (hi : i < N) (hx : a.eval x = nm i) (u : Value) (hu : (f i).getD z = u) (ok : Bool) (hok : (f i).isSome = ok) (hK : wpList P ops Q rest (a.put o.dst (.tuple #[u, .bool ok])) w) : wpList P ops Q (o :: rest) a w := by
  subst hu hok
  refine wpList_plain hg fun K' hK' => ?_
  have hrun := h.look T ht hz hi true
  unfold Oper.wp
  simp [execOp, hop, hm, hx, hrun, Result.andThen]
  exact hK' _ _ hK

theorem wpList_lookN (hg : o.guard = none) (m x : Operand) (t : TypeId) (hop : o.op = Op.lookup t m x false) (e : TypeId) (T : Tab P k N nm) (ht : P.underlying t = some (.map k e)) {z : Value} (hz : (zeroValue e).run P w = .ok z w)
    (hm : a.eval m = .map none) (i : Nat) (hi : i < N) (hx : a.eval x = nm i) (hK : wpList P ops Q rest (a.put o.dst z) w) : wpList P ops Q (o :: rest) a w := by
  refine wpList_plain hg fun K' hK' => ?_
  obtain ⟨kl, hkl⟩ := T.key i hi
  have hrun := look_nil T.K ht hz hkl
  unfold Oper.wp
  simp [execOp, hop, hm, hx, hrun, Result.andThen]
  exact hK' _ _ hK

theorem wpList_putT (hg : o.guard = none) (m x v : Operand) (t : TypeId) (hop : o.op = Op.mapUpdate t m x v) (e : TypeId) (T : Tab P k N nm) (ht : P.underlying t = some (.map k e)) (b : Nat) (h : MapT w b N nm f)
    (hm : a.eval m = .map (some b)) (i : Nat) (hi : i < N) (hx : a.eval x = nm i) (val : Value) (hv : a.eval v = val)
    (hK : ∀ w', MapT w' b N nm (upd f i (some val)) → w.mapTurned w' b → wpList P ops Q rest (a.put o.dst undef) w') : wpList P ops Q (o :: rest) a w := by
  refine wpList_plain hg fun K' hK' => ?_
  obtain ⟨w', hrun, r1, r2⟩ := h.put T ht hi val
  unfold Oper.wp
  simp [execOp, hop, hm, hx, hv, hrun, Result.andThen]
  exact hK' _ _ (hK w' r1 r2)

theorem wpList_delT (hg : o.guard = none) (m x : Operand) (t : TypeId) (hop : o.op = Op.call { callee := Callee.builtin Builtin.delete, args := #[m, x], argTypes := #[t, k] }) (e : TypeId) (T : Tab P k N nm) (ht : P.underlying t = some (.map k e)) (b : Nat) (h : MapT w b N nm f)
    (hm : a.eval m = .map (some b)) (i : Nat) (hi : i < N) (hx : a.eval x = nm i)
    (hK : ∀ w', MapT w' b N nm (upd f i none) → w.mapTurned w' b → wpList P ops Q rest (a.put o.dst (.tuple #[])) w') : wpList P ops Q (o :: rest) a w := by
  refine wpList_plain hg fun K' hK' => ?_
  obtain ⟨w', hrun, r1, r2⟩ := h.del T (ty := o.type) ht hi
  unfold Oper.wp
  simp [execOp, hop, resolve, invoke, builtin, hm, hx, hrun, Result.andThen]
  exact hK' _ _ (hK w' r1 r2)

theorem wpList_delR (hg : o.guard = none) (m x : Operand) (t : TypeId) (hop : o.op = Op.call { callee := Callee.builtin Builtin.delete, args := #[m, x], argTypes := #[t, k] }) (e : TypeId) (T : Tab P k N nm) (ht : P.underlying t = some (.map k e)) (b r : Nat) (h : RngT w b r N nm f left cnt)
    (hm : a.eval m = .map (some b)) (i : Nat) (hi : i < N) (hx : a.eval x = nm i)
    (hK : ∀ w' cnt', RngT w' b r N nm (upd f i none) (strike left i) cnt' → cnt' ≤ cnt → w.mapTurned w' b → wpList P ops Q rest (a.put o.dst (.tuple #[])) w') : wpList P ops Q (o :: rest) a w := by
  refine wpList_plain hg fun K' hK' => ?_
  obtain ⟨w', cnt', hrun, r1, r2, r3⟩ := h.del T (ty := o.type) ht hi
  unfold Oper.wp
  simp [execOp, hop, resolve, invoke, builtin, hm, hx, hrun, Result.andThen]
  exact hK' _ _ (hK w' cnt' r1 r2 r3)

theorem wpList_delN (hg : o.guard = none) (m x : Operand) (t : TypeId) (hop : o.op = Op.call { callee := Callee.builtin Builtin.delete, args := #[m, x], argTypes := #[t, k] }) (e : TypeId) (T : Tab P k N nm) (ht : P.underlying t = some (.map k e))
    (hm : a.eval m = .map none) (i : Nat) (hi : i < N) (hx : a.eval x = nm i)
    (hK : wpList P ops Q rest (a.put o.dst (.tuple #[])) w) : wpList P ops Q (o :: rest) a w := by
  refine wpList_plain hg fun K' hK' => ?_
  obtain ⟨kl, hkl⟩ := T.key i hi
  have hrun := Maps.drop_nil (w := w) T.K ht hkl o.type
  unfold Oper.wp
  simp [execOp, hop, resolve, invoke, builtin, hm, hx, hrun, Result.andThen]
  exact hK' _ _ hK

theorem wpList_lenT (hg : o.guard = none) (m : Operand) (t : TypeId) (hop : o.op = Op.call { callee := Callee.builtin Builtin.len, args := #[m], argTypes := #[t] }) (e : TypeId) (T : Tab P k N nm) (ht : P.underlying t = some (.map k e)) (b : Nat) (h : MapT w b N nm f)
    (hm : a.eval m = .map (some b)) (n : Nat) (hn : cntT N f = n) (hK : wpList P ops Q rest (a.put o.dst (.int .i64 n)) w) : wpList P ops Q (o :: rest) a w := by
  subst hn
  refine wpList_plain hg fun K' hK' => ?_
  unfold Oper.wp
  simp [execOp, hop, resolve, invoke, builtin, hm, h.len T ht o.type, Result.andThen]
  exact hK' _ _ hK

theorem wpList_lenN (hg : o.guard = none) (m : Operand) (t : TypeId) (hop : o.op = Op.call { callee := Callee.builtin Builtin.len, args := #[m], argTypes := #[t] }) (e : TypeId) (ht : P.underlying t = some (.map k e))
    (hm : a.eval m = .map none) (hK : wpList P ops Q rest (a.put o.dst (.int .i64 0)) w) : wpList P ops Q (o :: rest) a w := by
  refine wpList_plain hg fun K' hK' => ?_
  unfold Oper.wp
  simp [execOp, hop, resolve, invoke, builtin, hm, Maps.len_nil (w := w) ht o.type, Result.andThen]
  exact hK' _ _ hK

theorem wpList_rangeT (hg : o.guard = none) (m : Operand) (t : TypeId) (hop : o.op = Op.range t m) (e : TypeId) (T : Tab P k N nm) (ht : P.underlying t = some (.map k e)) (b : Nat) (h : MapT w b N nm f)
    (hm : a.eval m = .map (some b))
    (hK : ∀ w' cnt, RngT w' b w.heap.size N nm f (fun i => (f i).isSome) cnt → w.grownBy w' none → w'.heap.size = w.heap.size + 1 → wpList P ops Q rest (a.put o.dst (.pointer (some ⟨w.heap.size, 0, none⟩))) w') : wpList P ops Q (o :: rest) a w := by
  refine wpList_plain hg fun K' hK' => ?_
  obtain ⟨w', cnt, hrun, r1, r2, r3⟩ := h.range T ht
  unfold Oper.wp
  simp [execOp, hop, hm, hrun, Result.andThen]
  exact hK' _ _ (hK w' cnt r1 r2 r3)

theorem wpList_nextT (hg : o.guard = none) (it : Operand) (hop : o.op = Op.next it false) (T : Tab P k N nm) (b r : Nat) (h : RngT w b r N nm f left cnt) (hit : a.eval it = .pointer (some ⟨r, 0, none⟩))
    (hDone : cnt = 0 → (∀ i, i < N → left i = false) → wpList P ops Q rest (a.put o.dst (.tuple #[.bool false])) w)
    (hMore : ∀ (i : Nat) (v : Value) (w' : World) (cnt' : Nat), i < N → left i = true → f i = some v → RngT w' b r N nm f (strike left i) cnt' → cnt' < cnt → w.grownBy w' (some r) → w'.heap.size = w.heap.size →
      (Instr.entry (.pointer (some ⟨r, 0, none⟩))).run P w' = .ok (.tuple #[nm i, v]) w' → wpList P ops Q rest (a.put o.dst (.tuple #[.bool true, nm i, v])) w') : wpList P ops Q (o :: rest) a w := by
  refine wpList_plain hg fun K' hK' => ?_
  unfold Oper.wp
  rcases h.next T o.type with ⟨h0, hl, hrun⟩ | ⟨i, v, w', cnt', hi, hlk, hv, hrun, hrg, hlt, hgr, hsz, hen⟩
  · simp [execOp, hop, hit, hrun, Result.andThen]
    exact hK' _ _ (hDone h0 hl)
  · simp [execOp, hop, hit, hrun, Result.andThen]
    exact hK' _ _ (hMore i v w' cnt' hi hlk hv hrg hlt hgr hsz hen)

end
end Go.Proofs.Ybulkbofk
