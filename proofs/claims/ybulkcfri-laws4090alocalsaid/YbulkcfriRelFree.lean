import Derived.Test.YbulkcfriSteps
namespace Go.Proofs.Ybulkcfri
open Go.ChangeShapes Go.WideShapes Go.ChangeAt Go.RowKit Go.MuLone
set_option maxHeartbeats 1000000 in
theorem release_free (B M : Nat) (v : Value) (ms : List (ByteArray × ByteArray)) (h : Nat) (hm : Value) (a b : ByteArray) (ok : Bool) (w : World) (hM : w.heap[M]? = some (.cells (tCells 0 v h hm) 96 (0, 0))) (hown : w.ownsRow B 49 13 v ms.length (rowOf ms))
    (hlk : Looks w hm a b (.slice none 0 0) ok) (hmc : ∀ r, hm = .map (some r) → r ≠ M ∧ r < w.heap.size) (D : World → World → Prop)
    (hdel : ∀ (w' : World) (ty : TypeId), (∀ r, hm = .map (some r) → w'.heap[r]? = w.heap[r]?) → ∃ w'', (Builtin.delete_ #[94, 102] ty #[hm, .agg #[.string a, .string b]]).run Yba.prog w' = .ok (.tuple #[]) w'' ∧ D w' w'')
    (hD : ∀ w' w'', D w' w'' → ∀ c, w'.heap[M]? = some (.cells c 96 (0, 0)) → w''.heap[M]? = some (.cells c 96 (0, 0))) :
    Calls Yba.prog 12 #[.pointer (some ⟨M, 0, none⟩), .string a, .string b] w fun e w' => e = .returned (.tuple #[]) ∧ ∃ w1 w2, w1.heap[M]? = some (.cells (tCells 1 v h hm) 96 (0, 0)) ∧ Fr (· = M) w w1 ∧ D w1 w2 ∧ w' = w2.setCell ⟨M, 2, none⟩ (.int .i32 0) := by
  obtain ⟨i9, hi9, hz90, hz91, hz92⟩ := info_parts zero49
  have lM := lt_of_some hM
  have c2 : w.cell? ⟨M, 2, none⟩ = some (.int .i32 0) := cell_of hM rfl
  obtain ⟨a5, c5, rfl⟩ := own_slice hown
  go_enter_defers Yba.func12, Yba.ntmps12
  go_wp2_with fail
  refine (lock_free muLib ⟨M, 2, none⟩ _ c2 (free_of hM)).mono ?_
  rintro e w' ⟨rfl, rfl⟩
  go_wp2
  generalize hW : World.alloc _ _ = W
  have hMW : W.heap[M]? = some (.cells (tCells 1 (.slice a5 ms.length c5) h hm) 96 (0, 0)) := by
    rw [← hW]
    exact heap_alloc_old (heap_setCell_same hM)
  have hNW : W.heap[w.heap.size]? = some (.cells #[.string a, .string b] 102 (0, 0)) := by
    rw [← hW, heap_alloc, if_pos (by rw [size_setCell])]
  have frW : Fr (· = M) w W := by rw [← hW]; exact ((Fr.refl (· = M) w).setCell (W := M) rfl _ _).alloc _
  have ownW : W.ownsRow B 49 13 (.slice a5 ms.length c5) ms.length (rowOf ms) := own_fr hown frW (fun g hg => by
    obtain ⟨cu, hh⟩ := own_tag hown hg
    exact tag_ne hh hM (by decide))
  clear hW c2
  have lk := (hlk W.drew (fun r hr => (frW.block r (hmc r hr).2 (hmc r hr).1))).2
  have q0 := cell_of (j := 0) hNW rfl
  have q1 := cell_of (j := 1) hNW rfl
  have d5 : W.cell? ⟨M, 5, none⟩ = some (.slice a5 ms.length c5) := cell_of hMW rfl
  have d7 : W.cell? ⟨M, 7, none⟩ = some hm := cell_of hMW rfl
  have f5 : ∀ q, W.frozen? ⟨M, q, none⟩ = false := fun q => free_of hMW
  have hNM : ¬ w.heap.size = M := fun e => by omega
  have hMN : ¬ M = w.heap.size := fun e => by omega
  refine wp_region_noPanic ?_
  go_region_law (refine step_append_run rfl _ _ 33 33 rfl _ _ _ _ rfl rfl (run_append_owned_none (P := Yba.prog) _ B 33 33 49 i9 13 Yba.underlying33 hi9 _ _ _ (own_fr ownW (Fr.refl (fun _ => False) W).drew (fun _ _ => id))) ?_)
  all_goals
    refine NoPanic.normal ?_
    generalize hW1 : World.drew _ = W1
    have hM1 : W1.heap[M]? = some (.cells (tCells 1 (.slice a5 ms.length c5) h hm) 96 (0, 0)) := by
      rw [← hW1]
      show (World.setCell W _ _).heap[M]? = _
      rw [heap_setCell_same hMW]; rfl
    have fr1 : Fr (· = M) w W1 := by rw [← hW1]; exact (frW.setCell (W := M) rfl _ _).drew
    have hN1 : W1.heap[w.heap.size]? = some (.cells #[.string a, .string b] 102 (0, 0)) := by
      rw [← hW1]
      show (World.setCell W _ _).heap[w.heap.size]? = _
      rw [heap_setCell_other (by exact hMN)]; exact hNW
    clear hW1 q0 q1 d5 d7 f5 lk
    have q0 := cell_of (j := 0) hN1 rfl
    have q1 := cell_of (j := 1) hN1 rfl
    have d7 : W1.cell? ⟨M, 7, none⟩ = some hm := cell_of hM1 rfl
    obtain ⟨w2, hdr, hDw⟩ := hdel W1.drew 0 (fun r hr => fr1.block r (hmc r hr).2 (hmc r hr).1)
    have hM2 := hD _ _ hDw _ (show W1.drew.heap[M]? = _ from hM1)
    go_wp2
    refine wp_region_noPanic ?_
    go_region_law (refine step_delete_run rfl _ _ 94 102 rfl _ _ _ w2 rfl rfl hdr ?_)
    all_goals
      refine NoPanic.normal ?_
      refine leaves_cons (f := 22) (args := #[.pointer (some ⟨M, 2, none⟩)]) (by simp) (by simp [go_sem]) ?_
      refine (unlock_deferred muLib ⟨M, 2, none⟩ .returning _ (cell_of hM2 rfl) (free_of hM2)).mono ?_
      rintro e u' w'' ⟨rfl, rfl, rfl⟩
      exact ⟨_, results_none rfl _ _ _, rfl, W1.drew, w2, hM1, fr1.drew, hDw, rfl⟩
end Go.Proofs.Ybulkcfri
