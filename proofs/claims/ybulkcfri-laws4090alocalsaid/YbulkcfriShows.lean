import Derived.Test.YbulkcfriBuild
namespace Go.Proofs.Ybulkcfri
open Go.ChangeShapes Go.WideShapes Go.ChangeAt Go.RowKit Go.MuLone
theorem TS.keep {B M N : Nat} {w w' : World} {fl : List Pr} {H : Nat → Option (List Pr)} {n : Nat} {X : Nat → Prop} (h : TS B M N w fl H n) (hf : Fr X w w') (hX : ∀ k, X k → ¬ Foot w k) : TS B M N w' fl H n := by
  obtain ⟨v, h0, hm, ms, V, f, ht, hd⟩ := h
  have hno : ∀ {u : Value} {m : Nat} {xs : List Value}, w.ownsRow B 49 13 u m xs → w'.ownsRow B 49 13 u m xs := fun ho => own_fr ho hf (fun g hg hx => by
    obtain ⟨cu, hh⟩ := own_tag ho hg
    exact hX g hx (.inl ⟨_, hh⟩))
  exact ⟨v, h0, hm, ms, V, f, ⟨(hf.block _ (lt_of_some ht.blk) (fun hx => hX _ hx (.inr (.inl ⟨_, ht.blk⟩)))).trans ht.blk, ht.bm, hno ht.own, ht.hh, ht.bound, ht.map.fr hf (fun r es ck _ hh hx => hX r hx (.inr (.inr ⟨es, ck, hh⟩))), ht.key, fun k q hk hq => hno (ht.rows k q hk hq), ht.apart, ht.apart2, ht.nb⟩, hd⟩
theorem not_foot {w : World} {k : Nat} {c : Array Value} {t : TypeId} {z : Nat × Nat} (h : w.heap[k]? = some (.cells c t z)) (h1 : t ≠ 49) (h2 : t ≠ 96) : ¬ Foot w k := by
  rintro (⟨c, h3⟩ | ⟨c, h3⟩ | ⟨es, ck, h3⟩)
  · rw [h] at h3; cases h3; exact h1 rfl
  · rw [h] at h3; cases h3; exact h2 rfl
  · rw [h] at h3; cases h3
theorem own_shows {w : World} {B : Nat} {v : Value} {ms : List Pr} (ho : w.ownsRow B 49 13 v ms.length (rowOf ms)) : Shows w v ms := by
  rcases ho.2 with ⟨rfl, h0⟩ | ⟨g, cap, cur, rfl, hb, hh, hcap, _, hsz, htk⟩
  · exact .inl ⟨0, rfl, List.length_eq_zero_iff.1 h0⟩
  · refine .inr ⟨g, 0, cap, rfl, fun j u hj => ?_⟩
    have hjl := (List.getElem?_eq_some_iff.1 hj).1
    rw [rowOf_length'] at hjl
    rw [← htk, List.getElem?_take_of_lt hjl] at hj
    rw [Nat.zero_add]
    exact cell_of hh (by simpa using hj)
theorem Shows.of_below {w w' : World} {v : Value} {ms : List Pr} (h : Shows w v ms) (hb : Below w.heap.size w w') (hl : ∀ g, v.ownBlock = some g → g < w.heap.size) : Shows w' v ms := by
  rcases h with h | ⟨g, off, c, rfl, hr⟩
  · exact .inl h
  · exact .inr ⟨g, off, c, rfl, fun j u hj => (World.cell?_of_block (a := ⟨g, off + j, none⟩) (hb.block g (hl g rfl))).trans (hr j u hj)⟩
/-- What 'v[h:]' shows of an own row. -/
theorem own_cut {w : World} {B h L c5 : Nat} {a5 : Option Addr} {ms : List Pr} (ho : w.ownsRow B 49 13 (.slice a5 L c5) ms.length (rowOf ms)) (hh : h ≤ ms.length) :
    L = ms.length ∧ L ≤ c5 ∧ ∃ ad, (if c5 = h then a5 else a5.map (fun x => x.add (h * 13))) = ad ∧ Shows w (.slice ad (L - h) (c5 - h)) (ms.drop h) ∧ ∀ g, (Value.slice ad (L - h) (c5 - h)).ownBlock = some g → g < w.heap.size := by
  have hl : (ms.drop h).length = ms.length - h := List.length_drop
  rcases ho.2 with ⟨e, h0⟩ | ⟨g, cap, cur, e, hb, hg, hcap, hcm, hsz, htk⟩
  · injection e with e1 e2 e3
    subst e1 e2 e3
    have hm0 : ms = [] := List.length_eq_zero_iff.1 h0
    subst hm0
    exact ⟨rfl, Nat.le_refl _, none, by simp, .inl ⟨0 - h, by simp, by simp⟩, (fun g hg => by cases hg)⟩
  · injection e with e1 e2 e3
    subst e1 e2 e3
    refine ⟨rfl, hcap, ?_⟩
    by_cases hc : c5 = h
    · refine ⟨some ⟨g, 0, none⟩, by rw [if_pos hc], .inr ⟨g, 0, c5 - h, by rw [hl], fun j u hj => ?_⟩, fun k hk => ?_⟩
      · have : ms.drop h = [] := List.length_eq_zero_iff.1 (by omega)
        rw [this] at hj; cases hj
      · cases hk; exact lt_of_some hg
    · refine ⟨some ⟨g, h * 13, none⟩, by rw [if_neg hc]; simp [Addr.add]; intro h0; simp [h0], .inr ⟨g, h * 13, c5 - h, by rw [hl], fun j u hj => ?_⟩, fun k hk => ?_⟩
      · have h1 : (rowOf ms)[h * 13 + j]? = some u := by
          conv => lhs; rw [← List.take_append_drop h ms]
          rw [rowOf_append', List.getElem?_append_right (by rw [rowOf_length', List.length_take]; omega), rowOf_length', List.length_take, Nat.min_eq_left hh, show h * 13 + j - h * 13 = j by omega]
          exact hj
        have hjl := (List.getElem?_eq_some_iff.1 h1).1
        rw [rowOf_length'] at hjl
        rw [← htk, List.getElem?_take_of_lt hjl] at h1
        exact cell_of hg (by simpa using h1)
      · cases hk; exact lt_of_some hg
section
variable {B M N : Nat} {w : World} {v : Value} {h : Nat} {hm : Value} {ms : List Pr} {V : Nat → Value} {f : Value → Option Value} {H : Nat → Option (List Pr)} {n : Nat}
/-- What the map holds at link k. -/
theorem TS0.look (ht : TS0 B M N w v h hm ms V f H n) {k : Nat} (hk : k < 9) : Looks w hm (nm (k / 3)) (nm (k % 3)) (((H k).map fun _ => V k).getD (.slice none 0 0)) (H k).isSome := by
  have hkey := ht.key k hk
  rcases ht.map with ⟨rfl, _, e2⟩ | ⟨r, rfl, hBr, hmp⟩
  · rw [e2] at hkey
    cases hq : H k with
    | none => exact looks_nil w (nm_size _) (nm_size _)
    | some q => rw [hq] at hkey; cases hkey
  · have := looks_map hmp (nm_size (k / 3)) (nm_size (k % 3))
    unfold ky at hkey
    rw [hkey] at this
    cases hq : H k <;> rw [hq] at this <;> exact this
theorem TS0.heldShows (ht : TS0 B M N w v h hm ms V f H n) {k : Nat} (hk : k < 9) : Shows w (((H k).map fun _ => V k).getD (.slice none 0 0)) ((H k).getD []) ∧ (∀ g, (((H k).map fun _ => V k).getD (.slice none 0 0)).ownBlock = some g → g < w.heap.size) ∧ ((H k).getD []).length ≤ N := by
  have hb := ht.bound
  have hl := le_tot H hk
  refine ⟨?_, ?_, by omega⟩
  · cases hq : H k with
    | none => exact .inl ⟨0, rfl, rfl⟩
    | some q => exact own_shows (ht.rows k q hk hq)
  · cases hq : H k with
    | none => intro g hg; cases hg
    | some q => intro g hg; exact own_lt (ht.rows k q hk hq) hg
theorem TS0.len (ht : TS0 B M N w v h hm ms V f H n) (ty : TypeId) : (Builtin.len_ #[94] ty #[hm]).run Yba.prog w = .ok (.int .i64 n) w := by
  rcases ht.map with ⟨rfl, rfl, e2⟩ | ⟨r, rfl, hBr, hmp⟩
  · simp [Builtin.len_, run_underlying Yba.underlying94, goInt]
  · exact hmp.len Yba.underlying94 ty
end
theorem wpList_len_run {P : Program} {w : World} {ops : Array Oper} {rest : List Oper} {o : Oper} {a : Act} {Q : Exit → Act → World → Prop} (hgd : o.guard = none) (s : Operand) (T : TypeId)
    (hop : o.op = .call { callee := .builtin .len, args := #[s], argTypes := #[T] }) (vs v' : Value) (hs : a.eval s = vs) (hr : (Builtin.len_ #[T] o.type #[vs]).run P w = .ok v' w) (h : wpList P ops Q rest (a.put o.dst v') w) : wpList P ops Q (o :: rest) a w := by
  refine wpList_plain hgd fun K hK => ?_
  unfold Oper.wp
  simp [execOp, hop, resolve, invoke, builtin, hs, hr, Result.andThen]
  exact hK _ _ h
end Go.Proofs.Ybulkcfri
