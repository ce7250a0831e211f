import Derived.Test.YbulkcfriSteps
namespace Go.Proofs.Ybulkcfri
open Go.ChangeShapes Go.WideShapes Go.ChangeAt Go.RowKit Go.MuLone
theorem _root_.Go.World.ownsRow.cells' {w : World} {base : Nat} {e : TypeId} {size g n cap : Nat} {xs : List Value} (h : w.ownsRow base e size (.slice (some ⟨g, 0, none⟩) n cap) n xs) : ∀ j u, xs[j]? = some u → w.cell? ((⟨g, 0, none⟩ : Addr).add j) = some u := h.cells (g := g) rfl
set_option maxHeartbeats 1000000 in
theorem release_held (B M : Nat) (v : Value) (ms q : List (ByteArray × ByteArray)) (gq cq h : Nat) (hm : Value) (a b : ByteArray) (ok : Bool) (w : World) (hM : w.heap[M]? = some (.cells (tCells 0 v h hm) 96 (0, 0))) (hown : w.ownsRow B 49 13 v ms.length (rowOf ms)) (hlen : ms.length + q.length < 1000000) (hBM : B ≤ M)
    (hownQ : w.ownsRow B 49 13 (.slice (some ⟨gq, 0, none⟩) q.length cq) q.length (rowOf q)) (honeQ : ∀ u ∈ rowOf q, u.oneCell' = true)
    (hlk : Looks w hm a b (.slice (some ⟨gq, 0, none⟩) q.length cq) ok) (hmc : ∀ r, hm = .map (some r) → r ≠ M ∧ r < w.heap.size ∧ v.ownBlock ≠ some r) (D : World → World → Prop)
    (hdel : ∀ (w' : World) (ty : TypeId), (∀ r, hm = .map (some r) → w'.heap[r]? = w.heap[r]?) → ∃ w'', (Builtin.delete_ #[94, 102] ty #[hm, .agg #[.string a, .string b]]).run Yba.prog w' = .ok (.tuple #[]) w'' ∧ D w' w'')
    (hD : ∀ w' w'', D w' w'' → ∀ c, w'.heap[M]? = some (.cells c 96 (0, 0)) → w''.heap[M]? = some (.cells c 96 (0, 0))) :
    Calls Yba.prog 12 #[.pointer (some ⟨M, 0, none⟩), .string a, .string b] w fun e w' => e = .returned (.tuple #[]) ∧ ∃ v' w1 w2, w1.heap[M]? = some (.cells (tCells 1 v' h hm) 96 (0, 0)) ∧ w1.ownsRow B 49 13 v' (ms.length + q.length) (rowOf ms ++ rowOf q) ∧ Fr (fun k => k = M ∨ v.ownBlock = some k) w w1 ∧ (v'.ownBlock = v.ownBlock ∨ ∃ g, v'.ownBlock = some g ∧ w.heap.size ≤ g) ∧ D w1 w2 ∧ w' = w2.setCell ⟨M, 2, none⟩ (.int .i32 0) := by
  obtain ⟨i9, hi9, hz90, hz91, hz92⟩ := info_parts zero49
  have lM := lt_of_some hM
  have c2 : w.cell? ⟨M, 2, none⟩ = some (.int .i32 0) := cell_of hM rfl
  obtain ⟨a5, c5, rfl⟩ := own_slice hown
  go_enter_defers Yba.func12, Yba.ntmps12
  go_wp2_with fail
  refine (lock_free muLib ⟨M, 2, none⟩ _ c2 (free_of hM)).mono ?_
  rintro e w' ⟨rfl, rfl⟩
  go_wp2
  generalize hW : World.alloc _ _ = W
  have hMW : W.heap[M]? = some (.cells (tCells 1 (.slice a5 ms.length c5) h hm) 96 (0, 0)) := by
    rw [← hW]
    exact heap_alloc_old (heap_setCell_same hM)
  have hNW : W.heap[w.heap.size]? = some (.cells #[.string a, .string b] 102 (0, 0)) := by
    rw [← hW, heap_alloc, if_pos (by rw [size_setCell])]
  have frW : Fr (· = M) w W := by rw [← hW]; exact ((Fr.refl (· = M) w).setCell (W := M) rfl _ _).alloc _
  have ownW : W.ownsRow B 49 13 (.slice a5 ms.length c5) ms.length (rowOf ms) := own_fr hown frW (fun g hg => by
    obtain ⟨cu, hh⟩ := own_tag hown hg
    exact tag_ne hh hM (by decide))
  clear hW c2
  have lk := (hlk W.drew (fun r hr => (frW.block r (hmc r hr).2.1 (hmc r hr).1))).2
  have q0 := cell_of (j := 0) hNW rfl
  have q1 := cell_of (j := 1) hNW rfl
  have d5 : W.cell? ⟨M, 5, none⟩ = some (.slice a5 ms.length c5) := cell_of hMW rfl
  have d7 : W.cell? ⟨M, 7, none⟩ = some hm := cell_of hMW rfl
  have f5 : ∀ q, W.frozen? ⟨M, q, none⟩ = false := fun q => free_of hMW
  have hNM : ¬ w.heap.size = M := fun e => by omega
  have hMN : ¬ M = w.heap.size := fun e => by omega
  refine wp_region_noPanic ?_
  have ownQW : W.ownsRow B 49 13 (.slice (some ⟨gq, 0, none⟩) q.length cq) q.length (rowOf q) := own_fr hownQ frW (fun g hg => by
    obtain ⟨cu, hh⟩ := own_tag hownQ hg
    exact tag_ne hh hM (by decide))
  have hl1 : ms.length + q.length ≤ maxLen := by unfold maxLen; omega
  have hl2 : (ms.length + q.length) * 152 ≤ 140737488355328 := by omega
  have lMW := lt_of_some hMW
  have hBW : B ≤ W.heap.size := by omega
  have hMne : some M ≠ Value.ownBlock (.slice a5 ms.length c5) := fun e => by
    obtain ⟨cu, hh⟩ := own_tag ownW e.symm
    exact tag_ne hh hMW (by decide) rfl
  have hNne : some w.heap.size ≠ Value.ownBlock (.slice a5 ms.length c5) := fun e => by
    obtain ⟨cu, hh⟩ := own_tag ownW e.symm
    exact tag_ne hh hNW (by decide) rfl
  go_region_law (refine step_append_own rfl _ _ 33 rfl B 49 i9 _ 13 152 Yba.underlying33 hi9 hz90 hz91 hz92 rfl (by decide) (.slice a5 ms.length c5) ms.length (rowOf ms) rfl (own_fr ownW (Fr.refl (fun _ => False) W).drew (fun _ _ => id)) ⟨gq, 0, none⟩ q.length cq (rowOf q) rfl hownQ.1 (own_fr ownQW (Fr.refl (fun _ => False) W).drew (fun _ _ => id)).cells' honeQ hl1 hl2 hBW ?_; intro v' w1 ho hg hn hat; have hM1 : w1.heap[M]? = some (.cells (tCells 1 (.slice a5 ms.length c5) h hm) 96 (0, 0)) := (hg.block M lMW hMne).trans hMW; have hN1a : w1.heap[w.heap.size]? = some (.cells #[.string a, .string b] 102 (0, 0)) := (hg.block _ (lt_of_some hNW) hNne).trans hNW; obtain ⟨a6, c6, hv6⟩ := own_slice ho; subst hv6; have e5 : w1.cell? ⟨M, 5, none⟩ = some (.slice a5 ms.length c5) := cell_of hM1 rfl; have f5' : w1.frozen? ⟨M, 5, none⟩ = false := free_of hM1)
  all_goals
    refine NoPanic.normal ?_
    generalize hW1 : World.setCell w1 _ _ = W1
    have hM1' : W1.heap[M]? = some (.cells (tCells 1 (.slice a6 (ms.length + q.length) c6) h hm) 96 (0, 0)) := by
      rw [← hW1]
      show (World.setCell w1 _ _).heap[M]? = _
      rw [heap_setCell_same hM1]; rfl
    have fr0 : Fr (fun k => k = M ∨ (Value.slice a5 ms.length c5).ownBlock = some k) w w1 := (frW.mono (fun k _ e => .inl e)).drew.trans (Fr.of_grown hg (fun k e => .inr e))
    have fr1 : Fr (fun k => k = M ∨ (Value.slice a5 ms.length c5).ownBlock = some k) w W1 := by rw [← hW1]; exact fr0.setCell (W := M) (.inl rfl) _ _
    have own1 : W1.ownsRow B 49 13 (.slice a6 (ms.length + q.length) c6) (ms.length + q.length) (rowOf ms ++ rowOf q) := by
      rw [← hW1]
      refine own_fr ho ((Fr.refl (· = M) w1).setCell (W := M) rfl _ _) (fun g hgg => ?_)
      obtain ⟨cu, hh⟩ := own_tag ho hgg
      exact tag_ne hh hM1 (by decide)
    have hN1 : W1.heap[w.heap.size]? = some (.cells #[.string a, .string b] 102 (0, 0)) := by
      rw [← hW1]
      show (World.setCell w1 _ _).heap[w.heap.size]? = _
      rw [heap_setCell_other (by exact hMN)]; exact hN1a
    clear hW1 q0 q1 d5 d7 f5 lk e5 f5'
    have q0 := cell_of (j := 0) hN1 rfl
    have q1 := cell_of (j := 1) hN1 rfl
    have d7 : W1.cell? ⟨M, 7, none⟩ = some hm := cell_of hM1' rfl
    obtain ⟨w2, hdr, hDw⟩ := hdel W1.drew 0 (fun r hr => fr1.block r (hmc r hr).2.1 (fun e => e.elim (hmc r hr).1 (hmc r hr).2.2))
    have hM2 := hD _ _ hDw _ (show W1.drew.heap[M]? = _ from hM1')
    go_wp2
    refine wp_region_noPanic ?_
    go_region_law (refine step_delete_run rfl _ _ 94 102 rfl _ _ _ w2 rfl rfl hdr ?_)
    all_goals
      refine NoPanic.normal ?_
      refine leaves_cons (f := 22) (args := #[.pointer (some ⟨M, 2, none⟩)]) (by simp) (by simp [go_sem]) ?_
      refine (unlock_deferred muLib ⟨M, 2, none⟩ .returning _ (cell_of hM2 rfl) (free_of hM2)).mono ?_
      rintro e u' w'' ⟨rfl, rfl, rfl⟩
      refine ⟨_, results_none rfl _ _ _, rfl, _, W1.drew, w2, hM1', own1, fr1.drew, ?_, hDw, rfl⟩
      rcases hat with q | q
      · exact .inl q
      · exact .inr ⟨_, q, frW.size⟩
end Go.Proofs.Ybulkcfri
