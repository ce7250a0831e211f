import Derived.Test.YbulkcfriHold
namespace Go.Proofs.Ybulkcfri
open Go.ChangeShapes Go.WideShapes Go.ChangeAt Go.RowKit Go.MuLone
set_option maxRecDepth 100000 in
set_option maxHeartbeats 1000000 in
theorem hold_known (M h : Nat) (v z hm : Value) (a b : ByteArray) (w : World) (hM : w.heap[M]? = some (.cells (tCells 0 v h hm) 96 (0, 0))) (hlk : Looks w hm a b z true) (hmc : ∀ r, hm = .map (some r) → r ≠ M ∧ r < w.heap.size) :
    Calls Yba.prog 15 #[.pointer (some ⟨M, 0, none⟩), .string a, .string b] w fun e w' => e = .returned (.tuple #[]) ∧ w'.heap[M]? = some (.cells (tCells 0 v h hm) 96 (0, 0)) ∧ Fr (· = M) w w' := by
  have lM := lt_of_some hM
  have c2 : w.cell? ⟨M, 2, none⟩ = some (.int .i32 0) := cell_of hM rfl
  go_enter_defers Yba.func15, Yba.ntmps15
  go_wp2_with fail
  refine (lock_free muLib ⟨M, 2, none⟩ _ c2 (free_of hM)).mono ?_
  rintro e w' ⟨rfl, rfl⟩
  go_wp2
  generalize hW : World.alloc _ _ = W
  have hMW : W.heap[M]? = some (.cells (tCells 1 v h hm) 96 (0, 0)) := by
    rw [← hW]
    exact heap_alloc_old (heap_setCell_same hM)
  have hNW : W.heap[w.heap.size]? = some (.cells #[.string a, .string b] 102 (0, 0)) := by
    rw [← hW, heap_alloc, if_pos (by rw [size_setCell])]
  have frW : Fr (· = M) w W := by rw [← hW]; exact ((Fr.refl (· = M) w).setCell (W := M) rfl _ _).alloc _
  clear hW c2
  have lk : ∀ k, (Instr.lookup 94 hm (.agg #[.string a, .string b]) true).run Yba.prog (W.drewN k) = .ok (.tuple #[z, .bool true]) (W.drewN k) := fun k => (hlk (W.drewN k) (fun r hr => (frW.block r (hmc r hr).2 (hmc r hr).1))).1
  have q0 := cell_of (j := 0) hNW rfl
  have q1 := cell_of (j := 1) hNW rfl
  have d7 : W.cell? ⟨M, 7, none⟩ = some hm := cell_of hMW rfl
  go_quiet (fail)
  go_wp2
  generalize hW1 : World.drewN _ _ = W1
  have hb1 : Below W.heap.size W W1 := by rw [← hW1]; exact ⟨rfl, rfl, rfl, Nat.le_refl _, fun _ _ => rfl⟩
  have hM1 := (hb1.block _ (lt_of_some hMW)).trans hMW
  refine leaves_cons (f := 22) (args := #[.pointer (some ⟨M, 2, none⟩)]) (by simp) (by simp [go_sem]) ?_
  refine (unlock_deferred muLib ⟨M, 2, none⟩ .returning _ (cell_of hM1 rfl) (free_of hM1)).mono ?_
  rintro e u' w'' ⟨rfl, rfl, rfl⟩
  refine ⟨_, results_none rfl _ _ _, rfl, by rw [heap_setCell_same hM1]; rfl, ?_⟩
  exact (frW.trans (Fr.of_below hb1 _)).setCell (W := M) rfl _ _
end Go.Proofs.Ybulkcfri
