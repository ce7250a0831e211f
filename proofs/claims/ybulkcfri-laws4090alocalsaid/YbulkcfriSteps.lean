import Derived.Test.YbulkcfriSend
import Derived.Laws.OwnMore
namespace Go.Proofs.Ybulkcfri
open Go.ChangeShapes Go.WideShapes Go.ChangeAt Go.RowKit Go.MuLone
theorem step_append_run {P : Program} {ops : Array Oper} {o : Oper} {a : Act} {w : World} {K : Act → World → Prop} {Q : Exit → Act → World → Prop} {E : Prop}
    (hg : o.guard = none) (s x : Operand) (t u : TypeId) (hop : o.op = Op.call { callee := Callee.builtin Builtin.append, args := #[s, x], argTypes := #[t, u] })
    (vs vx v' : Value) (w' : World) (hs : a.eval s = vs) (hx : a.eval x = vx) (hr : (Builtin.append_ #[t, u] o.type #[vs, vx]).run P w = .ok v' w') (h : K (a.put o.dst v') w') :
    if Region.wanted o (yielded ops a.tmps) = true then Oper.wp P o a w K Q else E := by
  have hw : Region.wanted o (yielded ops a.tmps) = true := by simp [Region.wanted, hg]
  rw [if_pos hw]
  unfold Oper.wp
  simp only [execOp, hop, resolve, invoke, builtin, Sem.run_bind, Sem.run_pure, Result.andThen_ok, List.map_toArray, List.map_cons, List.map_nil, hs, hx, hr]
  exact h
theorem step_delete_run {P : Program} {ops : Array Oper} {o : Oper} {a : Act} {w : World} {K : Act → World → Prop} {Q : Exit → Act → World → Prop} {E : Prop}
    (hg : o.guard = none) (s x : Operand) (t u : TypeId) (hop : o.op = Op.call { callee := Callee.builtin Builtin.delete, args := #[s, x], argTypes := #[t, u] })
    (vs vx v' : Value) (w' : World) (hs : a.eval s = vs) (hx : a.eval x = vx) (hr : (Builtin.delete_ #[t, u] o.type #[vs, vx]).run P w = .ok v' w') (h : K (a.put o.dst v') w') :
    if Region.wanted o (yielded ops a.tmps) = true then Oper.wp P o a w K Q else E := by
  have hw : Region.wanted o (yielded ops a.tmps) = true := by simp [Region.wanted, hg]
  rw [if_pos hw]
  unfold Oper.wp
  simp only [execOp, hop, resolve, invoke, builtin, Sem.run_bind, Sem.run_pure, Result.andThen_ok, List.map_toArray, List.map_cons, List.map_nil, hs, hx, hr]
  exact h
/-- The map's answer at a link, in every world that leaves the map's block alone. -/
def Looks (w : World) (hm : Value) (a b : ByteArray) (z : Value) (ok : Bool) : Prop := ∀ w' : World, (∀ r, hm = .map (some r) → w'.heap[r]? = w.heap[r]?) →
  (Instr.lookup 94 hm (.agg #[.string a, .string b]) true).run Yba.prog w' = .ok (.tuple #[z, .bool ok]) w' ∧ (Instr.lookup 94 hm (.agg #[.string a, .string b]) false).run Yba.prog w' = .ok z w'
theorem looks_nil (w : World) {a b : ByteArray} (ha : a.size ≤ maxLen) (hb : b.size ≤ maxLen) : Looks w (.map none) a b (.slice none 0 0) false := fun w' _ => by
  obtain ⟨l, hk⟩ := key102 ha hb
  exact ⟨lookup_nil law102 Yba.underlying94 (Yba.zeroValue33 w') hk true, lookup_nil law102 Yba.underlying94 (Yba.zeroValue33 w') hk false⟩
theorem looks_map {w : World} {r n : Nat} {f : Value → Option Value} (h : MapIs Yba.prog 102 w r f n) {a b : ByteArray} (ha : a.size ≤ maxLen) (hb : b.size ≤ maxLen) :
    Looks w (.map (some r)) a b ((f (.agg #[.string a, .string b])).getD (.slice none 0 0)) (f (.agg #[.string a, .string b])).isSome := fun w' hw => by
  obtain ⟨l, hk⟩ := key102 ha hb
  have h' := h.of_block (hw r rfl)
  exact ⟨h'.lookup law102 Yba.underlying94 (Yba.zeroValue33 w') hk true, h'.lookup law102 Yba.underlying94 (Yba.zeroValue33 w') hk false⟩
end Go.Proofs.Ybulkcfri
