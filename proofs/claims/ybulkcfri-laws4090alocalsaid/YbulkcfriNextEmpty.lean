import Derived.Test.YbulkcfriTakeEmpty
import Derived.Test.YbulkcfriRowSteps
namespace Go.Proofs.Ybulkcfri
open Go.ChangeShapes Go.WideShapes Go.ChangeAt Go.RowKit Go.MuLone
theorem size49 : (Yba.prog.info? 49).map (·.size) = some 13 := by
  have := zero49
  cases hq : Yba.prog.info? 49 with
  | none => simp [hq] at this
  | some i => simp [hq] at this ⊢; exact this.2.1
set_option maxHeartbeats 1000000 in
theorem next_empty (M : Nat) (a5 : Option Addr) (L c5 : Nat) (hm : Value) (w : World) (hM : w.heap[M]? = some (.cells (tCells 0 (.slice a5 L c5) L hm) 96 (0, 0))) :
    Calls Yba.prog 16 #[.pointer (some ⟨M, 0, none⟩)] w fun e w' => e = .returned (.tuple #[.agg (msgOf ⟨#[]⟩ ⟨#[]⟩).toArray, .bool false]) ∧ w'.heap[M]? = some (.cells (tCells 0 (.slice a5 L c5) L hm) 96 (0, 0)) ∧ Fr (· = M) w w' := by
  have lM := lt_of_some hM
  have c2 : w.cell? ⟨M, 2, none⟩ = some (.int .i32 0) := cell_of hM rfl
  go_enter_defers Yba.func16, Yba.ntmps16
  go_wp2_with fail
  refine (lock_free muLib ⟨M, 2, none⟩ _ (cell_alloc_old c2) (free_of (heap_alloc_old hM))).mono ?_
  rintro e w' ⟨rfl, rfl⟩
  generalize hW : World.setCell _ _ _ = W
  have hMW : W.heap[M]? = some (.cells (tCells 1 (.slice a5 L c5) L hm) 96 (0, 0)) := by
    rw [← hW]; exact heap_setCell_same (heap_alloc_old hM)
  have hNW : W.heap[w.heap.size]? = some (.cells (msgOf ⟨#[]⟩ ⟨#[]⟩).toArray 49 (0, 0)) := by
    rw [← hW, heap_setCell_other (by show M ≠ w.heap.size; omega), heap_alloc, if_pos rfl]; rfl
  have frW : Fr (· = M) w W := by rw [← hW]; exact ((Fr.refl (· = M) w).alloc _).setCell (W := M) rfl _ _
  clear hW
  go_wp2_with fail
  refine (take_empty M 1 a5 L c5 hm W hMW).mono ?_
  rintro e W2 ⟨rfl, hb2⟩
  have hM2 := (hb2.block M (lt_of_some hMW)).trans hMW
  have hN2 := (hb2.block _ (lt_of_some hNW)).trans hNW
  go_wp2_with (refine wpList_store_row rfl 49 _ _ rfl w.heap.size 0 (msgOf ⟨#[]⟩ ⟨#[]⟩) rfl rfl _ 49 hN2 (by simp [msgOf]) size49 (msg_one _ _) ?_; intro wE hE' hfE)
  have hsE : splice (msgOf ⟨#[]⟩ ⟨#[]⟩).toArray.toList 0 (msgOf ⟨#[]⟩ ⟨#[]⟩) = msgOf ⟨#[]⟩ ⟨#[]⟩ := rfl
  have hE := hE'.out
  rw [hsE] at hE
  have hME := (hfE.block M (lt_of_some hM2) (by omega)).trans hM2
  have frE : Fr (· = M) w wE := ⟨hfE.os.trans (hb2.os.trans frW.os), hfE.tape.trans (hb2.tape.trans frW.tape), hfE.output.trans (hb2.output.trans frW.output), Nat.le_trans frW.size (Nat.le_trans hb2.size hfE.size), fun k hk hx => (hfE.block k (Nat.lt_of_lt_of_le hk (Nat.le_trans frW.size hb2.size)) (by omega)).trans ((hb2.block k (Nat.lt_of_lt_of_le hk frW.size)).trans (frW.block k hk hx))⟩
  refine leaves_cons (f := 22) (args := #[.pointer (some ⟨M, 2, none⟩)]) (by simp) (by simp [go_sem]) ?_
  refine (unlock_deferred muLib ⟨M, 2, none⟩ .returning _ (cell_of hME rfl) (free_of hME)).mono ?_
  rintro e u' w'' ⟨rfl, rfl, rfl⟩
  have hEE : (wE.setCell ⟨M, 2, none⟩ (.int .i32 0)).heap[w.heap.size]? = some (.cells (msgOf ⟨#[]⟩ ⟨#[]⟩).toArray 49 (0, 0)) := by
    rw [heap_setCell_other (by show M ≠ w.heap.size; omega)]; exact hE
  generalize hWF : wE.setCell ⟨M, 2, none⟩ (.int .i32 0) = wF at *
  have e0 := cell_of (j := 0) hEE rfl
  have e1 := cell_of (j := 1) hEE rfl
  have e2 := cell_of (j := 2) hEE rfl
  have e3 := cell_of (j := 3) hEE rfl
  have e4 := cell_of (j := 4) hEE rfl
  have e5 := cell_of (j := 5) hEE rfl
  have e6 := cell_of (j := 6) hEE rfl
  have e7 := cell_of (j := 7) hEE rfl
  have e8 := cell_of (j := 8) hEE rfl
  have e9 := cell_of (j := 9) hEE rfl
  have e10 := cell_of (j := 10) hEE rfl
  have e11 := cell_of (j := 11) hEE rfl
  have e12 := cell_of (j := 12) hEE rfl
  refine ⟨.tuple #[.agg (msgOf ⟨#[]⟩ ⟨#[]⟩).toArray, .bool false], by simp [results, Yba.results16, go_sem, msgOf, e0, e1, e2, e3, e4, e5, e6, e7, e8, e9, e10, e11, e12], rfl, ?_, ?_⟩
  · rw [← hWF, heap_setCell_same hME]; rfl
  · rw [← hWF]; exact frE.setCell (W := M) rfl _ _
end Go.Proofs.Ybulkcfri
