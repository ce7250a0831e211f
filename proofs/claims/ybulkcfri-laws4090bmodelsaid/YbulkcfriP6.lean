import Derived.Test.YbulkcfriCut
namespace Go.Proofs.Ybulkcfri
open Go.ChangeShapes Go.WideShapes Go.ChangeAt Go.RowKit Go.MuLone
/-- The law's own model: the queue in flight, the nine held queues, the nine flags. -/
structure P6 (B A5 A6 : Nat) (FL : List Pr) (H : Nat → Option (List Pr)) (vf : Value) (U : Nat → Value) (w wr : World) : Prop where
  q : CutRow wr B 108 2 vf FL.length (pairRow FL)
  arr : ∃ cs, wr.heap[A5]? = some (.cells cs 97 (0, 0)) ∧ cs.size = 9 ∧ ∀ j, j < 9 → cs[j]? = some (U j)
  flags : ∃ ds, wr.heap[A6]? = some (.cells ds 98 (0, 0)) ∧ ds.size = 9 ∧ ∀ j, j < 9 → ds[j]? = some (.bool (H j).isSome)
  rows : ∀ j, j < 9 → wr.ownsRow B 108 2 (U j) ((H j).getD []).length (pairRow ((H j).getD []))
  ap : ∀ j g, j < 9 → (U j).ownBlock = some g → vf.ownBlock ≠ some g
  ap2 : ∀ j j' g, j < 9 → j' < 9 → j ≠ j' → (U j).ownBlock = some g → (U j').ownBlock ≠ some g
  bel : Below B w wr
  b5 : B ≤ A5
  b6 : B ≤ A6
section
variable {B A5 A6 : Nat} {FL : List Pr} {H : Nat → Option (List Pr)} {vf : Value} {U : Nat → Value} {w wr : World}
theorem P6.lt (h : P6 B A5 A6 FL H vf U w wr) : A5 < wr.heap.size ∧ A6 < wr.heap.size ∧ B ≤ wr.heap.size := by
  obtain ⟨cs, hcs, _⟩ := h.arr
  obtain ⟨ds, hds, _⟩ := h.flags
  have := lt_of_some hcs
  have := h.b5
  exact ⟨lt_of_some hcs, lt_of_some hds, by omega⟩
theorem P6.ne (h : P6 B A5 A6 FL H vf U w wr) : A5 ≠ A6 := by
  obtain ⟨cs, hcs, _⟩ := h.arr
  obtain ⟨ds, hds, _⟩ := h.flags
  exact tag_ne hcs hds (by decide)
theorem P6.fr {X : Nat → Prop} {W : World} (h : P6 B A5 A6 FL H vf U w wr) (hf : Fr X wr W) (hB : ∀ k, X k → B ≤ k) (hX : ∀ k c t, X k → wr.heap[k]? = some (.cells c t (0, 0)) → t ≠ 108 ∧ t ≠ 97 ∧ t ≠ 98) : P6 B A5 A6 FL H vf U w W := by
  obtain ⟨cs, hcs, hc⟩ := h.arr
  obtain ⟨ds, hds, hd⟩ := h.flags
  refine ⟨cut_fr h.q hf (fun g hg hx => ?_), ⟨cs, (hf.block _ (lt_of_some hcs) (fun hx => (hX _ _ _ hx hcs).2.1 rfl)).trans hcs, hc⟩, ⟨ds, (hf.block _ (lt_of_some hds) (fun hx => (hX _ _ _ hx hds).2.2 rfl)).trans hds, hd⟩, fun j hj => own_fr (h.rows j hj) hf (fun g hg hx => ?_), h.ap, h.ap2, h.bel.trans (hf.below h.lt.2.2 hB), h.b5, h.b6⟩
  · obtain ⟨cu, hh⟩ := cut_tag h.q hg
    exact (hX _ _ _ hx hh).1 rfl
  · obtain ⟨cu, hh⟩ := own_tag (h.rows j hj) hg
    exact (hX _ _ _ hx hh).1 rfl
theorem P6.kept {W : World} (h : P6 B A5 A6 FL H vf U w wr) (hk : Kept B wr W) : P6 B A5 A6 FL H vf U w W :=
  h.fr hk (fun k hx => hx.1) (fun k c t hx hh => by
    rcases hx.2 with ⟨c', h3⟩ | ⟨c', h3⟩ | ⟨es, ck, h3⟩
    · rw [hh] at h3; cases h3; decide
    · rw [hh] at h3; cases h3; decide
    · rw [hh] at h3; cases h3)
theorem P6.below {W : World} (h : P6 B A5 A6 FL H vf U w wr) (hb : Below wr.heap.size wr W) : P6 B A5 A6 FL H vf U w W :=
  h.fr (Fr.of_below hb (fun _ => False)) (fun _ hx => hx.elim) (fun _ _ _ hx => hx.elim)
/-- Another queue in flight. -/
theorem P6.newFl {W : World} {vf' : Value} {FL' : List Pr} (h : P6 B A5 A6 FL H vf U w wr) (hf : Fr (fun k => vf.ownBlock = some k) wr W) (hq : CutRow W B 108 2 vf' FL'.length (pairRow FL')) (hap : ∀ j g, j < 9 → (U j).ownBlock = some g → vf'.ownBlock ≠ some g) : P6 B A5 A6 FL' H vf' U w W := by
  obtain ⟨cs, hcs, hc⟩ := h.arr
  obtain ⟨ds, hds, hd⟩ := h.flags
  have hne : ∀ {k c t}, wr.heap[k]? = some (.cells c t (0, 0)) → t ≠ 108 → vf.ownBlock ≠ some k := fun hh ht hx => by
    obtain ⟨cu, h3⟩ := cut_tag h.q hx
    rw [hh] at h3; cases h3; exact ht rfl
  exact ⟨hq, ⟨cs, (hf.block _ (lt_of_some hcs) (hne hcs (by decide))).trans hcs, hc⟩, ⟨ds, (hf.block _ (lt_of_some hds) (hne hds (by decide))).trans hds, hd⟩, fun j hj => own_fr (h.rows j hj) hf (fun g hg => h.ap j g hj hg), hap, h.ap2, h.bel.trans (hf.below h.lt.2.2 (fun k hx => cut_B h.q hx)), h.b5, h.b6⟩
/-- Another held queue at kk. -/
theorem P6.put {W : World} {kk : Nat} {x : Option (List Pr)} {u' : Value} (h : P6 B A5 A6 FL H vf U w wr) (hk : kk < 9) (hf : Fr (fun k => k = A5 ∨ k = A6 ∨ (U kk).ownBlock = some k) wr W)
    (h5 : ∀ cs, wr.heap[A5]? = some (.cells cs 97 (0, 0)) → W.heap[A5]? = some (.cells (cs.setIfInBounds kk u') 97 (0, 0))) (h6 : ∃ ds, W.heap[A6]? = some (.cells ds 98 (0, 0)) ∧ ds.size = 9 ∧ ∀ j, j < 9 → ds[j]? = some (.bool (upd H kk x j).isSome))
    (hrow : W.ownsRow B 108 2 u' (x.getD []).length (pairRow (x.getD []))) (hapu : ∀ g, u'.ownBlock = some g → vf.ownBlock ≠ some g) (hap2 : ∀ j g, j < 9 → j ≠ kk → (U j).ownBlock = some g → u'.ownBlock ≠ some g) :
    P6 B A5 A6 FL (upd H kk x) vf (fun j => if j = kk then u' else U j) w W := by
  obtain ⟨cs, hcs, hcz, hc⟩ := h.arr
  obtain ⟨ds0, hds0, hd0⟩ := h.flags
  have hne : ∀ {k c}, wr.heap[k]? = some (.cells c 108 (0, 0)) → k ≠ A5 ∧ k ≠ A6 := fun hh => ⟨tag_ne hh hcs (by decide), tag_ne hh hds0 (by decide)⟩
  refine ⟨cut_fr h.q hf (fun g hg hx => ?_), ⟨_, h5 cs hcs, by simpa using hcz, fun j hj => ?_⟩, h6, fun j hj => ?_, fun j g hj hg => ?_, fun j j' g hj hj' hne' hg => ?_, h.bel.trans (hf.below h.lt.2.2 (fun k hx => ?_)), h.b5, h.b6⟩
  · obtain ⟨cu, hh⟩ := cut_tag h.q hg
    rcases hx with e | e | e
    · exact (hne hh).1 e
    · exact (hne hh).2 e
    · exact h.ap kk g hk e hg
  · by_cases e : j = kk
    · subst e; simp [hcz, hk]
    · rw [Array.getElem?_setIfInBounds, if_neg (by omega)]; simp only [e, if_false]; exact hc j hj
  · by_cases e : j = kk
    · simp only [e, if_true, upd_same]; exact hrow
    · simp only [e, if_false]
      rw [upd_other _ _ e]
      refine own_fr (h.rows j hj) hf (fun g hg hx => ?_)
      obtain ⟨cu, hh⟩ := own_tag (h.rows j hj) hg
      rcases hx with e2 | e2 | e2
      · exact (hne hh).1 e2
      · exact (hne hh).2 e2
      · exact h.ap2 j kk g hj hk e hg e2
  · by_cases e : j = kk
    · simp only [e, if_true] at hg; exact hapu g hg
    · simp only [e, if_false] at hg; exact h.ap j g hj hg
  · by_cases e : j = kk
    · have e' : j' ≠ kk := fun e2 => hne' (e.trans e2.symm)
      simp only [e, if_true] at hg
      simp only [e', if_false]
      intro e3; exact hap2 j' g hj' e' e3 hg
    · simp only [e, if_false] at hg
      by_cases e' : j' = kk
      · simp only [e', if_true]; exact hap2 j g hj e hg
      · simp only [e', if_false]; exact h.ap2 j j' g hj hj' hne' hg
  · rcases hx with rfl | rfl | e
    · exact h.b5
    · exact h.b6
    · exact own_B (h.rows kk hk) e
end
end Go.Proofs.Ybulkcfri
