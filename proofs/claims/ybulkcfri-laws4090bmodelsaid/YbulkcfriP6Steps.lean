import Derived.Test.YbulkcfriP6
namespace Go.Proofs.Ybulkcfri
open Go.ChangeShapes Go.WideShapes Go.ChangeAt Go.RowKit Go.MuLone
theorem pairRow_append' (a b : List Pr) : pairRow (a ++ b) = pairRow a ++ pairRow b := by simp [pairRow]
theorem pairRow_one' (ms : List Pr) : ∀ u ∈ pairRow ms, u.oneCell' = true := by
  intro u hu
  simp only [pairRow, List.mem_flatMap] at hu
  obtain ⟨p, _, hp⟩ := hu
  exact pair_one _ _ u hp
theorem upd_none {H : Nat → Option (List Pr)} {k : Nat} (h : H k = none) : upd H k none = H := by
  funext j
  by_cases e : j = k
  · rw [e, upd_same, h]
  · rw [upd_other _ _ e]
section
variable {B A5 A6 : Nat} {FL : List Pr} {H : Nat → Option (List Pr)} {vf : Value} {U : Nat → Value} {w W2 : World}
theorem P6.notFoot (h : P6 B A5 A6 FL H vf U w W2) (k : Nat) (hx : k = A5 ∨ k = A6 ∨ (∃ j, j < 9 ∧ (U j).ownBlock = some k) ∨ vf.ownBlock = some k) : ¬ Foot W2 k := by
  rcases hx with rfl | rfl | ⟨j, hj, e⟩ | e
  · obtain ⟨cs, hcs, _⟩ := h.arr
    exact not_foot hcs (by decide) (by decide)
  · obtain ⟨ds, hds, _⟩ := h.flags
    exact not_foot hds (by decide) (by decide)
  · obtain ⟨cu, hh⟩ := own_tag (h.rows j hj) e
    exact not_foot hh (by decide) (by decide)
  · obtain ⟨cu, hh⟩ := cut_tag h.q e
    exact not_foot hh (by decide) (by decide)
theorem P6.sendHeld {k : Nat} {q : List Pr} {a b : ByteArray} {o : Obj} {w1 : World} {v' : Value} (hp : P6 B A5 A6 FL H vf U w W2) (hk : k < 9) (hkx : H k = some q) (ho : w1.ownsRow B 108 2 v' (q.length + 1) (pairRow q ++ pairOf a b)) (hg : ((W2.alloc o).drew).grownBy w1 (U k).ownBlock) (hat : v'.ownBlock = (U k).ownBlock ∨ v'.ownBlock = some ((W2.alloc o).drew).heap.size) :
    P6 B A5 A6 FL (upd H k (some (q ++ [(a, b)]))) vf (fun j => if j = k then v' else U j) w (w1.setCell ⟨A5, k, none⟩ v') ∧ ∀ B' M N fl H' n, TS B' M N W2 fl H' n → TS B' M N (w1.setCell ⟨A5, k, none⟩ v') fl H' n := by
  have hs : ((W2.alloc o).drew).heap.size = W2.heap.size + 1 := size_alloc W2 o
  have fr1 : Fr (fun j => (U k).ownBlock = some j) W2 w1 := ((Fr.refl _ W2).alloc o).drew.trans (Fr.of_grown hg (fun j e => e))
  have fr2 : Fr (fun j => j = A5 ∨ (U k).ownBlock = some j) W2 (w1.setCell ⟨A5, k, none⟩ v') := (fr1.mono (fun j _ e => .inr e)).setCell (W := A5) (.inl rfl) _ _
  obtain ⟨cs, hcs, hcz, hc⟩ := hp.arr
  obtain ⟨ds, hds, hdz, hd⟩ := hp.flags
  have ne : ∀ {j c t}, W2.heap[j]? = some (.cells c t (0, 0)) → t ≠ 108 → (U k).ownBlock ≠ some j := fun hh ht hx => by
    obtain ⟨cu, h3⟩ := own_tag (hp.rows k hk) hx
    rw [hh] at h3; cases h3; exact ht rfl
  have h51 := (fr1.block A5 (lt_of_some hcs) (ne hcs (by decide))).trans hcs
  have h61 := (fr1.block A6 (lt_of_some hds) (ne hds (by decide))).trans hds
  have hbl : ∀ g, v'.ownBlock = some g → (U k).ownBlock = some g ∨ W2.heap.size ≤ g := fun g hg2 => by
    rcases hat with e | e
    · exact .inl (e ▸ hg2)
    · rw [e, hs] at hg2; have := Option.some.inj hg2; exact .inr (by omega)
  refine ⟨hp.put hk (fr2.mono (fun j _ e => e.imp id .inr)) (fun cs' hcs' => ?_) ⟨ds, ?_, hdz, fun j hj => ?_⟩ ?_ (fun g hg2 => ?_) (fun j g hj hne hg2 e => ?_), fun B' M N fl H' n ht => ht.keep fr2 (fun j hx => hp.notFoot j (hx.elim .inl (fun e => .inr (.inr (.inl ⟨k, hk, e⟩)))))⟩
  · rw [hcs] at hcs'; cases hcs'; exact heap_setCell_same h51
  · rw [heap_setCell_other (by exact hp.ne)]; exact h61
  · by_cases e : j = k
    · rw [e, upd_same, hd k hk, hkx]; rfl
    · rw [upd_other _ _ e]; exact hd j hj
  · have : (some (q ++ [(a, b)]) : Option (List Pr)).getD [] = q ++ [(a, b)] := rfl
    rw [this, pairRow_append', List.length_append]
    refine own_fr ho ((Fr.refl (· = A5) w1).setCell (W := A5) rfl _ _) (fun g hg2 => ?_)
    obtain ⟨cu, hh⟩ := own_tag ho hg2
    exact tag_ne hh h51 (by decide)
  · rcases hbl g hg2 with e | e
    · exact hp.ap k g hk e
    · intro e2; have := cut_lt hp.q e2; omega
  · rcases hbl g e with e2 | e2
    · exact hp.ap2 j k g hj hk hne hg2 e2
    · have := own_lt (hp.rows j hj) hg2; omega
/-- fl = append(fl, more...), then hq[k] = nil, hp[k] = false. -/
theorem P6.clear {k : Nat} (hp : P6 B A5 A6 FL H vf U w W2) (hk : k < 9) :
    P6 B A5 A6 FL (upd H k none) vf (fun j => if j = k then .slice none 0 0 else U j) w ((W2.setCell ⟨A5, k, none⟩ (.slice none 0 0)).setCell ⟨A6, k, none⟩ (.bool false)) ∧ ∀ B' M N fl H' n, TS B' M N W2 fl H' n → TS B' M N ((W2.setCell ⟨A5, k, none⟩ (.slice none 0 0)).setCell ⟨A6, k, none⟩ (.bool false)) fl H' n := by
  have fr2 : Fr (fun j => j = A5 ∨ j = A6) W2 ((W2.setCell ⟨A5, k, none⟩ (.slice none 0 0)).setCell ⟨A6, k, none⟩ (.bool false)) := ((Fr.refl _ W2).setCell (W := A5) (.inl rfl) _ _).setCell (W := A6) (.inr rfl) _ _
  obtain ⟨cs, hcs, hcz, hc⟩ := hp.arr
  obtain ⟨ds, hds, hdz, hd⟩ := hp.flags
  refine ⟨hp.put hk (fr2.mono (fun j _ e => e.imp id .inl)) (fun cs' hcs' => ?_) ⟨_, heap_setCell_same ((heap_setCell_other (by exact hp.ne)).trans hds), by simpa using hdz, fun j hj => ?_⟩ (World.ownsRow_nil _ _ _ _) (fun g hg2 => by cases hg2) (fun j g hj hne hg2 e => by cases e), fun B' M N fl H' n ht => ht.keep fr2 (fun j hx => hp.notFoot j (hx.elim .inl (fun e => .inr (.inl e))))⟩
  · rw [hcs] at hcs'; cases hcs'
    rw [heap_setCell_other (by exact (Ne.symm hp.ne))]; exact heap_setCell_same hcs
  · by_cases e : j = k
    · subst e; rw [upd_same]; simp [hdz, hk]
    · rw [upd_other _ _ e, Array.getElem?_setIfInBounds, if_neg (by omega)]; exact hd j hj
/-- hq[k] = q, hp[k] = true, fl = rest: both of new rows. -/
theorem P6.hold {k C : Nat} {q rest : List Pr} {vq vr : Value} {W1 : World} (hp : P6 B A5 A6 FL H vf U w W1) (hb : Below W1.heap.size W1 W2) (hC : W1.heap.size ≤ C) (hk : k < 9) (hq : W2.ownsRow C 108 2 vq q.length (pairRow q)) (hr : W2.ownsRow C 108 2 vr rest.length (pairRow rest)) (hdis : ∀ g, vq.ownBlock = some g → vr.ownBlock ≠ some g) :
    P6 B A5 A6 rest (upd H k (some q)) vr (fun j => if j = k then vq else U j) w ((W2.setCell ⟨A5, k, none⟩ vq).setCell ⟨A6, k, none⟩ (.bool true)) ∧ ∀ B' M N fl H' n, TS B' M N W2 fl H' n → TS B' M N ((W2.setCell ⟨A5, k, none⟩ vq).setCell ⟨A6, k, none⟩ (.bool true)) fl H' n := by
  have hp2 := hp.below hb
  have hB := hp.lt.2.2
  have fr2 : Fr (fun j => j = A5 ∨ j = A6) W2 ((W2.setCell ⟨A5, k, none⟩ vq).setCell ⟨A6, k, none⟩ (.bool true)) := ((Fr.refl _ W2).setCell (W := A5) (.inl rfl) _ _).setCell (W := A6) (.inr rfl) _ _
  obtain ⟨cs, hcs, hcz, hc⟩ := hp2.arr
  obtain ⟨ds, hds, hdz, hd⟩ := hp2.flags
  have hrow : ∀ {v : Value} {l : List Pr}, W2.ownsRow C 108 2 v l.length (pairRow l) → ((W2.setCell ⟨A5, k, none⟩ vq).setCell ⟨A6, k, none⟩ (.bool true)).ownsRow B 108 2 v l.length (pairRow l) := fun ho => own_base (own_fr ho fr2 (fun g hg e => by
    obtain ⟨cu, hh⟩ := own_tag ho hg
    rcases e with e | e
    · exact tag_ne hh hcs (by decide) e
    · exact tag_ne hh hds (by decide) e)) (by omega)
  have hp3 : P6 B A5 A6 FL (upd H k (some q)) vf (fun j => if j = k then vq else U j) w ((W2.setCell ⟨A5, k, none⟩ vq).setCell ⟨A6, k, none⟩ (.bool true)) := by
    refine hp2.put hk (fr2.mono (fun j _ e => e.imp id .inl)) (fun cs' hcs' => ?_) ⟨_, heap_setCell_same ((heap_setCell_other (by exact hp2.ne)).trans hds), by simpa using hdz, fun j hj => ?_⟩ (hrow hq) (fun g hg2 e => ?_) (fun j g hj hne hg2 e => ?_)
    · rw [hcs] at hcs'; cases hcs'
      rw [heap_setCell_other (by exact (Ne.symm hp2.ne))]; exact heap_setCell_same hcs
    · by_cases e : j = k
      · subst e; rw [upd_same]; simp [hdz, hk]
      · rw [upd_other _ _ e, Array.getElem?_setIfInBounds, if_neg (by omega)]; exact hd j hj
    · have := own_B hq hg2; have := cut_lt hp.q e; omega
    · have := own_lt (hp.rows j hj) hg2; have := own_B hq e; omega
  refine ⟨hp3.newFl (Fr.refl _ _) (cut_own (hrow hr)) (fun j g hj hg2 e => ?_), fun B' M N fl H' n ht => ht.keep fr2 (fun j hx => hp2.notFoot j (hx.elim .inl (fun e => .inr (.inl e))))⟩
  by_cases ej : j = k
  · simp only [ej, if_true] at hg2; exact hdis g hg2 e
  · simp only [ej, if_false] at hg2
    have := own_lt (hp.rows j hj) hg2; have := own_B hr e; omega
end
end Go.Proofs.Ybulkcfri
