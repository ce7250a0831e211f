import Derived.Test.YbulkcfriSteps
import Derived.Deep.MidRow
import Derived.Laws.CopyOwn
import Derived.Test.YbulkcfriAny
import Derived.BigQuiet
namespace Go.Proofs.Ybulkcfri
open Go.ChangeShapes Go.WideShapes Go.ChangeAt Go.RowKit Go.MuLone
theorem fr_setRow (w : World) (g : Nat) (cs : Array Value) : Fr (· = g) w (w.setRow g cs) := ⟨rfl, rfl, rfl, by simp [World.setRow], fun k _ hx => setRow_other w g k cs hx⟩
theorem run_storeAt_row {P : Program} (w : World) (g off : Nat) (ty t : TypeId) (cs : List Value) (cur : Array Value) (hh : w.heap[g]? = some (.cells cur t (0, 0))) (hfit : off + cs.length ≤ cur.size) (hi : (P.info? ty).map (·.size) = some cs.length) (h1 : ∀ v ∈ cs, v.oneCell' = true) :
    (Instr.storeAt ty (.pointer (some ⟨g, off, none⟩)) (.agg cs.toArray)).run P w = .ok () (w.setRow g (splice cur.toList off cs).toArray) := by
  have hst := run_storeCells_at P g off t cs 0 cur w hh (by simpa using hfit) h1
  cases hq : P.info? ty with
  | none => simp [hq] at hi
  | some i =>
    have hs : i.size = cs.length := by simpa [hq] using hi
    simp only [Nat.add_zero] at hst
    simp [Instr.storeAt, Instr.sureAddr, storeVar, sizeOf, typeInfo, hq, Value.cells, hs, hst, splice]
theorem run_copy_rows {P : Program} (w : World) (dT sT ty elem : TypeId) (size g o dLen dCap : Nat) (a : Addr) (sLen sCap : Nat) (cur : Array Value) (t : TypeId) (cs : List Value)
    (hu : P.underlying dT = some (.slice elem)) (hs : (P.info? elem).map (·.size) = some size)
    (hg : w.heap[g]? = some (.cells cur t (0, 0))) (hn : cs.length = Nat.min sLen dLen * size)
    (hsrc : ∀ j v, cs[j]? = some v → w.cell? (a.add j) = some v) (hfit : o + cs.length ≤ cur.size) (h1 : ∀ v ∈ cs, v.oneCell' = true) :
    (Builtin.copy_ #[dT, sT] ty #[.slice (some ⟨g, o, none⟩) dLen dCap, .slice (some a) sLen sCap]).run P w =
      .ok (goInt (Nat.min sLen dLen)) (w.setRow g (splice cur.toList o cs).toArray) := by
  have hl := run_loadCells_list (P := P) w a cs hsrc
  have hst := run_storeCells_at P g o t cs 0 cur w hg (by simpa using hfit) h1
  cases hq : P.info? elem with
  | none => simp [hq] at hs
  | some i =>
    have hi : i.size = size := by simpa [hq] using hs
    simp [Builtin.copy_, run_underlying hu, Builtin.lenOf, Builtin.firstCells, sizeOf, typeInfo, hq, hi, ← hn, hl, hst, splice]
theorem run_clear_row {P : Program} (w : World) (T ty elem : TypeId) (g o n c : Nat) (cur : Array Value) (t : TypeId) (z : Value) (hz : (zeroValue elem).run P w = .ok z w)
    (hu : P.underlying T = some (.slice elem)) (hg : w.heap[g]? = some (.cells cur t (0, 0))) (hn : 0 < n) (hfit : o + n * z.cells.size ≤ cur.size) (h1 : ∀ v ∈ (Builtin.zeroCells z.cells n).toList, v.oneCell' = true) :
    (Builtin.clear_ #[T] ty #[.slice (some ⟨g, o, none⟩) n c]).run P w = .ok (.tuple #[]) (w.setRow g (splice cur.toList o (Builtin.zeroCells z.cells n).toList).toArray) := by
  have hlen : (Builtin.zeroCells z.cells n).toList.length = n * z.cells.size := by simp [Builtin.zeroCells]
  have hst := run_storeCells_at P g o t (Builtin.zeroCells z.cells n).toList 0 cur w hg (by rw [hlen]; simpa using hfit) h1
  obtain ⟨m, rfl⟩ : ∃ m, n = m + 1 := ⟨n - 1, by omega⟩
  simp only [Nat.add_zero] at hst
  simp [Builtin.clear_, run_underlying hu, hz, hst, splice]
theorem step_store_row {P : Program} {ops : Array Oper} {o : Oper} {a : Act} {w : World} {K : Act → World → Prop} {Q : Exit → Act → World → Prop} {E : Prop}
    (hg : o.guard = none) (ty : TypeId) (x y : Operand) (hop : o.op = .store ty x y) (g off : Nat) (cs : List Value) (hx : a.eval x = .pointer (some ⟨g, off, none⟩)) (hy : a.eval y = .agg cs.toArray)
    (cur : Array Value) (t : TypeId) (hh : w.heap[g]? = some (.cells cur t (0, 0))) (hfit : off + cs.length ≤ cur.size) (hi : (P.info? ty).map (·.size) = some cs.length) (h1 : ∀ v ∈ cs, v.oneCell' = true)
    (h : ∀ w', Hid (w'.heap[g]? = some (.cells (splice cur.toList off cs).toArray t (0, 0))) → Fr (· = g) w w' → K (a.put o.dst undef) w') :
    if Region.wanted o (yielded ops a.tmps) = true then Oper.wp P o a w K Q else E := by
  have hw : Region.wanted o (yielded ops a.tmps) = true := by simp [Region.wanted, hg]
  rw [if_pos hw]
  unfold Oper.wp
  simp only [execOp, hop, hx, hy, run_storeAt_row w g off ty t cs cur hh hfit hi h1, Sem.run_bind, Sem.run_pure, Result.andThen_ok]
  exact h _ (setRow_heap _ _ _ _ _ _ hh) (fr_setRow _ _ _)
theorem wpList_store_row {P : Program} {w : World} {ops : Array Oper} {rest : List Oper} {o : Oper} {a : Act} {Q : Exit → Act → World → Prop} (hgd : o.guard = none) (ty : TypeId) (x y : Operand) (hop : o.op = .store ty x y) (g off : Nat) (cs : List Value) (hx : a.eval x = .pointer (some ⟨g, off, none⟩)) (hy : a.eval y = .agg cs.toArray)
    (cur : Array Value) (t : TypeId) (hh : w.heap[g]? = some (.cells cur t (0, 0))) (hfit : off + cs.length ≤ cur.size) (hi : (P.info? ty).map (·.size) = some cs.length) (h1 : ∀ v ∈ cs, v.oneCell' = true)
    (h : ∀ w', Hid (w'.heap[g]? = some (.cells (splice cur.toList off cs).toArray t (0, 0))) → Fr (· = g) w w' → wpList P ops Q rest (a.put o.dst undef) w') : wpList P ops Q (o :: rest) a w := by
  refine wpList_plain hgd fun K hK => ?_
  unfold Oper.wp
  simp only [execOp, hop, hx, hy, run_storeAt_row w g off ty t cs cur hh hfit hi h1, Sem.run_bind, Sem.run_pure, Result.andThen_ok]
  exact hK _ _ (h _ (setRow_heap _ _ _ _ _ _ hh) (fr_setRow _ _ _))
theorem step_load_row {P : Program} {ops : Array Oper} {o : Oper} {a : Act} {w : World} {K : Act → World → Prop} {Q : Exit → Act → World → Prop} {E : Prop}
    (hg : o.guard = none) (ty : TypeId) (x : Operand) (hop : o.op = .load ty x) (g off : Nat) (cs : List Value) (hx : a.eval x = .pointer (some ⟨g, off, none⟩))
    (d : TypeDesc) (hc : w.rangeAt g off cs) (hu : P.underlying ty = some d) (hd : d.isRow = true) (hi : (P.info? ty).map (·.size) = some cs.length)
    (h : K (a.put o.dst (.agg cs.toArray)) w) :
    if Region.wanted o (yielded ops a.tmps) = true then Oper.wp P o a w K Q else E := by
  have hw : Region.wanted o (yielded ops a.tmps) = true := by simp [Region.wanted, hg]
  rw [if_pos hw]
  exact wp_load_mid ty x hop g off hx cs d hc hu hd hi h
theorem step_copy_rows {P : Program} {ops : Array Oper} {o : Oper} {a : Act} {w : World} {K : Act → World → Prop} {Q : Exit → Act → World → Prop} {E : Prop}
    (hgd : o.guard = none) (d s : Operand) (dT sT : TypeId) (hop : o.op = .call { callee := .builtin .copy, args := #[d, s], argTypes := #[dT, sT] }) (elem : TypeId) (size : Nat) (hu : P.underlying dT = some (.slice elem)) (hs : (P.info? elem).map (·.size) = some size)
    (g off dLen dCap : Nat) (ad : Addr) (sLen sCap : Nat) (hd : a.eval d = .slice (some ⟨g, off, none⟩) dLen dCap) (hsv : a.eval s = .slice (some ad) sLen sCap)
    (cur : Array Value) (t : TypeId) (hh : w.heap[g]? = some (.cells cur t (0, 0))) (cs : List Value) (hn : cs.length = Nat.min sLen dLen * size)
    (hsrc : ∀ j v, cs[j]? = some v → w.cell? (ad.add j) = some v) (hfit : off + cs.length ≤ cur.size) (h1 : ∀ v ∈ cs, v.oneCell' = true)
    (h : ∀ w', Hid (w'.heap[g]? = some (.cells (splice cur.toList off cs).toArray t (0, 0))) → Fr (· = g) w w' → K (a.put o.dst (goInt (Nat.min sLen dLen))) w') :
    if Region.wanted o (yielded ops a.tmps) = true then Oper.wp P o a w K Q else E := by
  have hw : Region.wanted o (yielded ops a.tmps) = true := by simp [Region.wanted, hgd]
  rw [if_pos hw]
  unfold Oper.wp
  simp only [execOp, hop, resolve, invoke, builtin, Sem.run_bind, Sem.run_pure, Result.andThen_ok, List.map_toArray, List.map_cons, List.map_nil, hd, hsv, run_copy_rows w dT sT o.type elem size g off dLen dCap ad sLen sCap cur t cs hu hs hh hn hsrc hfit h1]
  exact h _ (setRow_heap _ _ _ _ _ _ hh) (fr_setRow _ _ _)
theorem wpList_clear_row {P : Program} {w : World} {ops : Array Oper} {rest : List Oper} {o : Oper} {a : Act} {Q : Exit → Act → World → Prop} (hgd : o.guard = none) (s : Operand) (T : TypeId)
    (hop : o.op = .call { callee := .builtin .clear, args := #[s], argTypes := #[T] }) (elem : TypeId) (z : Value) (hz : (zeroValue elem).run P w = .ok z w) (hu : P.underlying T = some (.slice elem))
    (g off n c : Nat) (hs : a.eval s = .slice (some ⟨g, off, none⟩) n c) (cur : Array Value) (t : TypeId) (hh : w.heap[g]? = some (.cells cur t (0, 0))) (hn : 0 < n) (hfit : off + n * z.cells.size ≤ cur.size) (h1 : ∀ v ∈ (Builtin.zeroCells z.cells n).toList, v.oneCell' = true)
    (h : ∀ w', Hid (w'.heap[g]? = some (.cells (splice cur.toList off (Builtin.zeroCells z.cells n).toList).toArray t (0, 0))) → Fr (· = g) w w' → wpList P ops Q rest (a.put o.dst (.tuple #[])) w') : wpList P ops Q (o :: rest) a w := by
  refine wpList_plain hgd fun K hK => ?_
  have hrun := run_clear_row (P := P) w T o.type elem g off n c cur t z hz hu hh hn hfit h1
  unfold Oper.wp
  simp [execOp, hop, resolve, invoke, builtin, hs, hrun, Result.andThen]
  exact hK _ _ (h _ (setRow_heap _ _ _ _ _ _ hh) (fr_setRow _ _ _))
def lastOf : List Oper → Oper → Oper
  | [], d => d
  | x :: r, _ => lastOf r x
theorem lastOf_get : ∀ (l : List Oper) (d : Oper), l ≠ [] → l[l.length - 1]? = some (lastOf l d)
  | [], _, h => absurd rfl h
  | [x], _, _ => rfl
  | x :: y :: r, _, _ => by
    have := lastOf_get (y :: r) x (by simp)
    simpa [lastOf] using this
def dropOf : List Oper → List Oper
  | [] => []
  | [_] => []
  | x :: y :: r => x :: dropOf (y :: r)
theorem dropOf_eq : ∀ (l : List Oper), dropOf l = l.dropLast
  | [] => rfl
  | [_] => rfl
  | x :: y :: r => by simp [dropOf, dropOf_eq (y :: r)]
theorem wp_region_quiet_last {P : Program} {id : Nat} {Q : Exit → Act → World → Prop} {a : Act} {w : World} {x : Oper} {l : List Oper} (k : Nat) (hm : P.follows .mixedOrders = true) (hok : lastOk (x :: l).toArray k = true) (hB : Region.lexB .any (dropOf (x :: l)).toArray = true)
    (h : wpQuiet P (dropOf (x :: l)).toArray (fun w' => ∃ n, w' = w.drewN n) (fun a' => ∀ w', (∃ n, w' = w.drewN n) → if Region.wanted (lastOf l x) (yielded (x :: l).toArray a'.tmps) = true then Oper.wp P (lastOf l x) a' w' (Q .normal) Q else False) (dropOf (x :: l)) a) : (Code.region id (x :: l).toArray true).wp P Q a w := by
  have ho : (x :: l).toArray[(x :: l).toArray.size - 1]? = some (lastOf l x) := by
    have := lastOf_get (x :: l) x (by simp)
    simpa [lastOf] using this
  refine wp_region_last hm k hok ho ?_
  rw [dropOf_eq] at hB h
  rw [show (x :: l).toArray.pop = (x :: l).dropLast.toArray by simp]
  simp only [Region.lexB, Bool.and_eq_true] at hB
  refine wpAny_of_quiet (C := fun w' => ∃ n, w' = w.drewN n) (Q := fun a' => ∀ w', (∃ n, w' = w.drewN n) → if Region.wanted (lastOf l x) (yielded (x :: l).toArray a'.tmps) = true then Oper.wp P (lastOf l x) a' w' (Q .normal) Q else False) (fun a' w' hw' h => ?_) _ _ _ _ ⟨1, rfl⟩ ?_
  · have := h w' hw'
    split at this
    · exact this
    · exact this.elim
  have := wpAnyQ_lex (P := P) (C := fun w' => ∃ n, w' = w.drewN n) (md := .any) hB.1 (x :: l).dropLast 0 (Array.replicate (x :: l).dropLast.toArray.size false) a (by simp) (by simpa using hB.2) h
  simpa using this
end Go.Proofs.Ybulkcfri
