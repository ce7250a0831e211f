import Derived.Test.YbulkcfriSteps
namespace Go.Proofs.Ybulkcfri
open Go.ChangeShapes Go.WideShapes Go.ChangeAt Go.RowKit Go.MuLone
theorem take_empty (M : Nat) (mu : Int) (a5 : Option Addr) (L c5 : Nat) (hm : Value) (w : World) (hM : w.heap[M]? = some (.cells (tCells mu (.slice a5 L c5) L hm) 96 (0, 0))) :
    Calls Yba.prog 23 #[.pointer (some ⟨M, 0, none⟩)] w fun e w' => e = .returned (.tuple #[.agg (msgOf ⟨#[]⟩ ⟨#[]⟩).toArray, .bool false]) ∧ Below w.heap.size w w' := by
  have lM := lt_of_some hM
  have c5' : w.cell? ⟨M, 5, none⟩ = some (.slice a5 L c5) := cell_of hM rfl
  have c6' : w.cell? ⟨M, 6, none⟩ = some (.int .i64 L) := cell_of hM rfl
  have hb : ((L : Int) == (L : Int)) = true := by simp
  go_enter Yba.func23, Yba.ntmps23
  go_wp2
  go_quiet (fail)
  go_wp2
  generalize hw : World.setCell _ _ _ = wE
  have hE : wE.heap[w.heap.size]? = some (.cells #[.int .i64 0, .string ⟨#[]⟩, .string ⟨#[]⟩, .int .u64 0, .int .u64 0, .int .u64 0, .int .u64 0, .int .u64 0, .string ⟨#[]⟩, .slice none 0 0, .slice none 0 0, .bool false, .bool false] 49 (0, 0)) := by
    rw [← hw]
    have hbase : ((w.alloc (.cells (msgOf ⟨#[]⟩ ⟨#[]⟩).toArray 49)).drewN nq).heap[w.heap.size]? = some (.cells (msgOf ⟨#[]⟩ ⟨#[]⟩).toArray 49 (0, 0)) := by
      show (World.alloc w _).heap[w.heap.size]? = _
      rw [heap_alloc, if_pos rfl]
    exact (heap_setCell_same (heap_setCell_same (heap_setCell_same (heap_setCell_same (heap_setCell_same (heap_setCell_same (heap_setCell_same (heap_setCell_same (heap_setCell_same (heap_setCell_same (heap_setCell_same (heap_setCell_same (heap_setCell_same hbase)))))))))))))
  have hbel : Below w.heap.size w wE := by
    rw [← hw]
    have hb0 : Below w.heap.size w ((w.alloc (.cells (msgOf ⟨#[]⟩ ⟨#[]⟩).toArray 49)).drewN nq) := (below_alloc w _).trans ⟨rfl, rfl, rfl, Nat.le_refl _, fun _ _ => rfl⟩
    exact (((((((((((((hb0.setCell (Nat.le_refl _) _).setCell (Nat.le_refl _) _).setCell (Nat.le_refl _) _).setCell (Nat.le_refl _) _).setCell (Nat.le_refl _) _).setCell (Nat.le_refl _) _).setCell (Nat.le_refl _) _).setCell (Nat.le_refl _) _).setCell (Nat.le_refl _) _).setCell (Nat.le_refl _) _).setCell (Nat.le_refl _) _).setCell (Nat.le_refl _) _).setCell (Nat.le_refl _) _)
  have e0 := cell_of (j := 0) hE rfl
  have e1 := cell_of (j := 1) hE rfl
  have e2 := cell_of (j := 2) hE rfl
  have e3 := cell_of (j := 3) hE rfl
  have e4 := cell_of (j := 4) hE rfl
  have e5 := cell_of (j := 5) hE rfl
  have e6 := cell_of (j := 6) hE rfl
  have e7 := cell_of (j := 7) hE rfl
  have e8 := cell_of (j := 8) hE rfl
  have e9 := cell_of (j := 9) hE rfl
  have e10 := cell_of (j := 10) hE rfl
  have e11 := cell_of (j := 11) hE rfl
  have e12 := cell_of (j := 12) hE rfl
  clear hw
  refine bodyPost_ret (v := .tuple #[.agg (msgOf ⟨#[]⟩ ⟨#[]⟩).toArray, .bool false]) (by simp [results, Yba.results23, go_sem, msgOf, *]) rfl ?_
  exact ⟨rfl, hbel⟩
end Go.Proofs.Ybulkcfri
