import Derived.Test.YbulkcfriTakeFirst
import Derived.Test.YbulkcfriNextEmpty
namespace Go.Proofs.Ybulkcfri
open Go.ChangeShapes Go.WideShapes Go.ChangeAt Go.RowKit Go.MuLone
set_option maxHeartbeats 1000000 in
theorem next_first (M g h L c : Nat) (hm : Value) (ms : List (ByteArray × ByteArray)) (cur : Array Value) (a b : ByteArray) (w : World) (hM : w.heap[M]? = some (.cells (tCells 0 (.slice (some ⟨g, 0, none⟩) L c) h hm) 96 (0, 0))) (hL : h < L) (hL2 : L < 1000000)
    (hg : w.heap[g]? = some (.cells cur 49 (0, 0))) (htk : cur.toList.take (L * 13) = rowOf ms) (hms : ms.length = L) (hLc : L ≤ c) (hcs : cur.size = c * 13) (he : ms[h]? = some (a, b)) :
    Calls Yba.prog 16 #[.pointer (some ⟨M, 0, none⟩)] w fun e w' => e = .returned (.tuple #[.agg (msgOf a b).toArray, .bool true]) ∧ TookOne M g c 0 hm L (ms.drop (h + 1)) w w' := by
  have lM := lt_of_some hM
  have lg := lt_of_some hg
  have hgM : g ≠ M := tag_ne hg hM (by decide)
  have c2 : w.cell? ⟨M, 2, none⟩ = some (.int .i32 0) := cell_of hM rfl
  go_enter_defers Yba.func16, Yba.ntmps16
  go_wp2_with fail
  refine (lock_free muLib ⟨M, 2, none⟩ _ (cell_alloc_old c2) (free_of (heap_alloc_old hM))).mono ?_
  rintro e w' ⟨rfl, rfl⟩
  generalize hW : World.setCell _ _ _ = W
  have hMW : W.heap[M]? = some (.cells (tCells 1 (.slice (some ⟨g, 0, none⟩) L c) h hm) 96 (0, 0)) := by
    rw [← hW]; exact heap_setCell_same (heap_alloc_old hM)
  have hNW : W.heap[w.heap.size]? = some (.cells (msgOf ⟨#[]⟩ ⟨#[]⟩).toArray 49 (0, 0)) := by
    rw [← hW, heap_setCell_other (by show M ≠ w.heap.size; omega), heap_alloc, if_pos rfl]; rfl
  have frW : Fr (· = M) w W := by rw [← hW]; exact ((Fr.refl (· = M) w).alloc _).setCell (W := M) rfl _ _
  have hgW := (frW.block g lg hgM).trans hg
  clear hW
  go_wp2_with fail
  refine (take_first M g h L c 1 hm ms cur a b W hMW hL hL2 hgW htk hms hLc hcs he).mono ?_
  rintro e W2 ⟨rfl, L', h', ms', cur', hM2, hg2, htk2, hms2, hLL, hcs2, hhL, hdr, fr2⟩
  have hN2 := (fr2.block _ (lt_of_some hNW) (by omega)).trans hNW
  go_wp2_with (refine wpList_store_row rfl 49 _ _ rfl w.heap.size 0 (msgOf a b) rfl rfl _ 49 hN2 (by simp [msgOf]) size49 (msg_one _ _) ?_; intro wE hE' hfE)
  have hsE : splice (msgOf ⟨#[]⟩ ⟨#[]⟩).toArray.toList 0 (msgOf a b) = msgOf a b := rfl
  have hE := hE'.out
  rw [hsE] at hE
  have hME := (hfE.block M (lt_of_some hM2) (by omega)).trans hM2
  have hgE := (hfE.block g (lt_of_some hg2) (by omega)).trans hg2
  have frE : Fr (fun k => k = M ∨ k = g) w wE := ⟨hfE.os.trans (fr2.os.trans frW.os), hfE.tape.trans (fr2.tape.trans frW.tape), hfE.output.trans (fr2.output.trans frW.output), Nat.le_trans frW.size (Nat.le_trans fr2.size hfE.size), fun k hk hx => (hfE.block k (Nat.lt_of_lt_of_le hk (Nat.le_trans frW.size fr2.size)) (by omega)).trans ((fr2.block k (Nat.lt_of_lt_of_le hk frW.size) hx).trans (frW.block k hk (fun e => hx (.inl e))))⟩
  refine leaves_cons (f := 22) (args := #[.pointer (some ⟨M, 2, none⟩)]) (by simp) (by simp [go_sem]) ?_
  refine (unlock_deferred muLib ⟨M, 2, none⟩ .returning _ (cell_of hME rfl) (free_of hME)).mono ?_
  rintro e u' w'' ⟨rfl, rfl, rfl⟩
  have hEE : (wE.setCell ⟨M, 2, none⟩ (.int .i32 0)).heap[w.heap.size]? = some (.cells (msgOf a b).toArray 49 (0, 0)) := by
    rw [heap_setCell_other (by show M ≠ w.heap.size; omega)]; exact hE
  generalize hWF : wE.setCell ⟨M, 2, none⟩ (.int .i32 0) = wF at *
  have e0 := cell_of (j := 0) hEE rfl
  have e1 := cell_of (j := 1) hEE rfl
  have e2 := cell_of (j := 2) hEE rfl
  have e3 := cell_of (j := 3) hEE rfl
  have e4 := cell_of (j := 4) hEE rfl
  have e5 := cell_of (j := 5) hEE rfl
  have e6 := cell_of (j := 6) hEE rfl
  have e7 := cell_of (j := 7) hEE rfl
  have e8 := cell_of (j := 8) hEE rfl
  have e9 := cell_of (j := 9) hEE rfl
  have e10 := cell_of (j := 10) hEE rfl
  have e11 := cell_of (j := 11) hEE rfl
  have e12 := cell_of (j := 12) hEE rfl
  refine ⟨.tuple #[.agg (msgOf a b).toArray, .bool true], by simp [results, Yba.results16, go_sem, msgOf, e0, e1, e2, e3, e4, e5, e6, e7, e8, e9, e10, e11, e12], rfl, L', h', ms', cur', ?_, ?_, htk2, hms2, hLL, hcs2, hhL, hdr, ?_⟩
  · rw [← hWF, heap_setCell_same hME]; rfl
  · rw [← hWF, heap_setCell_other (by exact Ne.symm hgM)]; exact hgE
  · rw [← hWF]; exact frE.setCell (W := M) (.inl rfl) _ _
end Go.Proofs.Ybulkcfri
