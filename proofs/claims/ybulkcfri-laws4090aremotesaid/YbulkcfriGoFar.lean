import Derived.Test.YbulkcfriGoBase
import Derived.Below
namespace Go.Proofs.Ybulkcfri
open Go.ChangeShapes Go.WideShapes Go.ChangeAt Go.RowKit

set_option maxRecDepth 100000 in
set_option maxHeartbeats 3200000 in
theorem goBack_far (S W : Nat) (site uHome home : ByteArray) (up p idI idN : Int) (m1 m2 ga gb : Value) (w : World)
    (hS : w.cell? ⟨S, 0, none⟩ = some (.string site)) (hW : w.heap[W]? = some (.cells (walkCells idI idN home m1 m2 ga gb (.slice none 0 0) (.slice none 0 0) (.pointer none)) 37 (0, 0)))
    (hSW : S ≠ W) (h1 : (uHome.toList == site.toList) = false) (h2 : (uHome.toList == home.toList) = false) :
    Calls Yba.prog 8 #[.pointer (some ⟨S, 0, none⟩), .pointer (some ⟨W, 0, none⟩), .agg #[.int .u64 up, .string uHome], .int .u64 p] w fun e w' => e = .returned (.tuple #[]) ∧
      ∃ out found, w'.heap[W]? = some (.cells (walkCells idI idN home m1 m2 ga gb out found (.pointer none)) 37 (0, 0)) ∧ OneOf w' out (msgCells site uHome home up p idI idN) ∧ OneOf w' found #[.int .u64 up, .int .u64 p] ∧ Fr (fun k => k = W) w w' := by
  have c2 : w.cell? ⟨W, 2, none⟩ = some (.string home) := cell_of hW rfl
  have c9 : w.cell? ⟨W, 9, none⟩ = some (.pointer none) := cell_of hW rfl
  have c8 : w.cell? ⟨W, 8, none⟩ = some (.slice none 0 0) := cell_of hW rfl
  have hWl := lt_of_some hW
  have hSl := World.block_lt_of_cell? w _ hS
  simp only at hSl
  have HW : Hid (w.heap[W]? = some (.cells (walkCells idI idN home m1 m2 ga gb (.slice none 0 0) (.slice none 0 0) (.pointer none)) 37 (0, 0))) := hW
  clear hW
  have hc39 := cap39
  have hc49 := cap49
  go_enter Yba.func8, Yba.ntmps8
  go_wp2
  go_quiet (fail)
  go_wp2
  have hmid : Mid (fun k => k = W) S W w.heap.size site uHome home up p idI idN m1 m2 ga gb (.slice none 0 0) (.slice none 0 0) (.pointer none) w (((w.alloc (.cells #[.int .u64 up, .string uHome] 45)).alloc (.cells #[.int .u64 up, .int .u64 p] 39)).drewN nq) := by
    have hm0 : Mid (fun k => k = W) S W w.heap.size site uHome home up p idI idN m1 m2 ga gb (.slice none 0 0) (.slice none 0 0) (.pointer none) w ((w.alloc (.cells #[.int .u64 up, .string uHome] 45)).alloc (.cells #[.int .u64 up, .int .u64 p] 39)) := ⟨cell_alloc_old (cell_alloc_old hS), heap_alloc_old (heap_alloc_old HW.out), cell_alloc_old (by simp), cell_alloc_old (by simp), by simp, by simp, hSW, by omega, by omega, rfl, ((Fr.refl _ _).alloc _).alloc _⟩
    exact hm0.drewN nq
  generalize (((w.alloc (.cells #[.int .u64 up, .string uHome] 45)).alloc (.cells #[.int .u64 up, .int .u64 p] 39)).drewN nq) = w1 at hmid ⊢
  have d8 : w1.cell? ⟨W, 8, none⟩ = some (.slice none 0 0) := cell_of hmid.blk rfl
  have y8 : w1.frozen? ⟨W, 8, none⟩ = false := free_of hmid.blk
  have e0 := hmid.f0
  have e1 := hmid.f1
  have hWl1 := lt_of_some hmid.blk
  have hUl1 := World.block_lt_of_cell? w1 _ e0
  simp only at hUl1
  clear c2 c9 c8 hS
  have fz : ∀ o, (w1.alloc o).frozen? ⟨W, 8, none⟩ = false := fun o => (World.frozen?_alloc_old w1 o ⟨W, 8, none⟩ (by simp; omega)).trans y8
  have fz2 : ∀ o o', ((w1.alloc o).alloc o').frozen? ⟨W, 8, none⟩ = false := fun o o' => (World.frozen?_alloc_old (w1.alloc o) o' ⟨W, 8, none⟩ (by simp; omega)).trans (fz o)
  go_region
  generalize ((Question.appendCap 1 0 39).cut (w1.tape (w1.drawn + 1) (Question.appendCap 1 0 39))) = cp
  have hmid2 := (((hmid.setFound (.slice (some ⟨w1.heap.size + 1, 0, none⟩) 1 cp)).alloc (.cells #[.int .u64 up, .int .u64 p] 39)).alloc (.cells (#[.int .u64 up, .int .u64 p] ++ Builtin.zeroCells #[.int .u64 0, .int .u64 0] (cp - 1)) 39)).drew.drew
  have hone := oneOf_new ((w1.setCell ⟨W, 8, none⟩ (.slice (some ⟨w1.heap.size + 1, 0, none⟩) 1 cp)).alloc (.cells #[.int .u64 up, .int .u64 p] 39)) #[.int .u64 up, .int .u64 p] (Builtin.zeroCells #[.int .u64 0, .int .u64 0] (cp - 1)) 39 cp
  rw [World.size_alloc, size_setCell] at hone
  have hone2 : OneOf ((((w1.setCell ⟨W, 8, none⟩ (.slice (some ⟨w1.heap.size + 1, 0, none⟩) 1 cp)).alloc (.cells #[.int .u64 up, .int .u64 p] 39)).alloc (.cells (#[.int .u64 up, .int .u64 p] ++ Builtin.zeroCells #[.int .u64 0, .int .u64 0] (cp - 1)) 39)).drew.drew) (.slice (some ⟨w1.heap.size + 1, 0, none⟩) 1 cp) #[.int .u64 up, .int .u64 p] := hone
  clear hone d8 y8 e0 e1 fz fz2 hUl1 hmid
  generalize ((((w1.setCell ⟨W, 8, none⟩ (.slice (some ⟨w1.heap.size + 1, 0, none⟩) 1 cp)).alloc (.cells #[.int .u64 up, .int .u64 p] 39)).alloc (.cells (#[.int .u64 up, .int .u64 p] ++ Builtin.zeroCells #[.int .u64 0, .int .u64 0] (cp - 1)) 39)).drew.drew) = w2 at hmid2 hone2 ⊢
  have g1 := hmid2.u1
  have g2 := hmid2.s
  go_wp2
  go_quiet (fail)
  go_wp2
  have hmid3 := hmid2.drewN nq
  have hone3 : OneOf (w2.drewN nq) _ _ := hone2
  generalize w2.drewN nq = w3 at hmid3 hone3 ⊢
  clear hmid2 hone2 g1 g2
  have b0 : w3.cell? ⟨W, 0, none⟩ = some (.int .u64 idI) := cell_of hmid3.blk rfl
  have b1 : w3.cell? ⟨W, 1, none⟩ = some (.int .u64 idN) := cell_of hmid3.blk rfl
  have b2 : w3.cell? ⟨W, 2, none⟩ = some (.string home) := cell_of hmid3.blk rfl
  have b7 : w3.cell? ⟨W, 7, none⟩ = some (.slice none 0 0) := cell_of hmid3.blk rfl
  have y7 : w3.frozen? ⟨W, 7, none⟩ = false := free_of hmid3.blk
  have hWl3 := lt_of_some hmid3.blk
  have g0 := hmid3.u0
  have g1 := hmid3.u1
  have g2 := hmid3.s
  have hUl3 := World.block_lt_of_cell? w3 _ g0
  have hSl3 := World.block_lt_of_cell? w3 _ g2
  simp only at hUl3 hSl3
  have fz : ∀ o, (w3.alloc o).frozen? ⟨W, 7, none⟩ = false := fun o => (World.frozen?_alloc_old w3 o ⟨W, 7, none⟩ (by simp; omega)).trans y7
  have fz2 : ∀ o o', ((w3.alloc o).alloc o').frozen? ⟨W, 7, none⟩ = false := fun o o' => (World.frozen?_alloc_old (w3.alloc o) o' ⟨W, 7, none⟩ (by simp; omega)).trans (fz o)
  clear HW
  go_region
  generalize ((Question.appendCap 1 0 49).cut (w3.tape (w3.drawn + 1) (Question.appendCap 1 0 49))) = cq
  have hmid4 := (((hmid3.setOut (.slice (some ⟨w3.heap.size + 1, 0, none⟩) 1 cq)).alloc (.cells (msgCells site uHome home up p idI idN) 49)).alloc (.cells (msgCells site uHome home up p idI idN ++ Builtin.zeroCells #[.int .i64 0, .string ⟨#[]⟩, .string ⟨#[]⟩, .int .u64 0, .int .u64 0, .int .u64 0, .int .u64 0, .int .u64 0, .string ⟨#[]⟩, .slice none 0 0, .slice none 0 0, .bool false, .bool false] (cq - 1)) 49)).drew.drew
  have hout := oneOf_new ((w3.setCell ⟨W, 7, none⟩ (.slice (some ⟨w3.heap.size + 1, 0, none⟩) 1 cq)).alloc (.cells (msgCells site uHome home up p idI idN) 49)) (msgCells site uHome home up p idI idN) (Builtin.zeroCells #[.int .i64 0, .string ⟨#[]⟩, .string ⟨#[]⟩, .int .u64 0, .int .u64 0, .int .u64 0, .int .u64 0, .int .u64 0, .string ⟨#[]⟩, .slice none 0 0, .slice none 0 0, .bool false, .bool false] (cq - 1)) 49 cq
  rw [World.size_alloc, size_setCell] at hout
  have hg34 : Fr (fun k => k = W) w3 ((((w3.setCell ⟨W, 7, none⟩ (.slice (some ⟨w3.heap.size + 1, 0, none⟩) 1 cq)).alloc (.cells (msgCells site uHome home up p idI idN) 49)).alloc (.cells (msgCells site uHome home up p idI idN ++ Builtin.zeroCells #[.int .i64 0, .string ⟨#[]⟩, .string ⟨#[]⟩, .int .u64 0, .int .u64 0, .int .u64 0, .int .u64 0, .int .u64 0, .string ⟨#[]⟩, .slice none 0 0, .slice none 0 0, .bool false, .bool false] (cq - 1)) 49)).drew.drew) :=
    ((((Fr.refl (fun k => k = W) w3).setCell rfl _ _).alloc _).alloc _).drew.drew
  have hfin : OneOf ((((w3.setCell ⟨W, 7, none⟩ (.slice (some ⟨w3.heap.size + 1, 0, none⟩) 1 cq)).alloc (.cells (msgCells site uHome home up p idI idN) 49)).alloc (.cells (msgCells site uHome home up p idI idN ++ Builtin.zeroCells #[.int .i64 0, .string ⟨#[]⟩, .string ⟨#[]⟩, .int .u64 0, .int .u64 0, .int .u64 0, .int .u64 0, .int .u64 0, .string ⟨#[]⟩, .slice none 0 0, .slice none 0 0, .bool false, .bool false] (cq - 1)) 49)).drew.drew) _ _ := hout
  simp only [msgCells] at hmid4 hfin hg34
  generalize ((((w3.setCell ⟨W, 7, none⟩ _).alloc _).alloc _).drew.drew) = w4 at hmid4 hfin hg34 ⊢
  clear hout fz fz2 b0 b1 b2 b7 y7 g0 g1 g2
  have k1 : OneOf w4 (.slice (some ⟨w1.heap.size + 1, 0, none⟩) 1 cp) #[.int .u64 up, .int .u64 p] := hone3.fr hg34 (by intro g cap e; cases e; omega)
  have K1 : Hid _ := k1
  clear k1 hone3
  have k2 := hmid4.blk
  have k3 : OneOf w4 (.slice (some ⟨w3.heap.size + 1, 0, none⟩) 1 cq) (msgCells site uHome home up p idI idN) := hfin
  have k4 := hmid4.fr
  clear hmid4 hfin hg34 hmid3
  have K2 : Hid _ := k2
  have K3 : Hid _ := k3
  have K4 : Hid _ := k4
  clear k2 k3 k4
  go_wp2
  refine bodyPost_ret (v := .tuple #[]) (results_none rfl _ _ _) rfl ?_
  exact ⟨rfl, _, _, K2.out, K3.out, K1.out, K4.out⟩
end Go.Proofs.Ybulkcfri
