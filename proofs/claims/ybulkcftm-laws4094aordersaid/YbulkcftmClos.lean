import Derived.Test.YbulkcftmLeaf
import Derived.LaidEqlPtr
namespace Go.Proofs.Ybulkcftm
open Go.ChangeShapes Go.WideShapes Go.ChangeAt Go.RowKit
theorem ret_bool {a b : Bool} (h : a = b) : Ending.returned (.bool a) = Ending.returned (.bool b) := by rw [h]
theorem run_neq_ptr_same {P : Program} (w : World) {tp te : TypeId} (a : Addr) (hp : P.underlying tp = some (.pointer te)) (hte : (P.info? te).isSome = true) :
    (binOp .neq tp (.pointer (some a)) (.pointer (some a))).run P w = .ok (.bool false) w := by
  obtain ⟨j, hj⟩ := Option.isSome_iff_exists.1 hte
  have h : ∀ d : Nat, (Op.equalIn (d + 1) tp (.pointer (some a)) (.pointer (some a))).run P w = .ok true w := fun d => by
    simp [Op.equalIn, run_underlying hp, sizeOf, typeInfo, hj, run_sameAddr_same]
  simp only [binOp]
  simp [Op.equal, Op.maxDepth, h 9999]
theorem neq26 (a : Addr) (w : World) : (binOp .neq 26 (.pointer (some a)) (.pointer (some a))).run Yba.prog w = .ok (.bool false) w := run_neq_ptr_same w a Yba.underlying26 (by kernel_rfl)
theorem neq56 (a : Addr) (w : World) : (binOp .neq 56 (.pointer (some a)) (.pointer (some a))).run Yba.prog w = .ok (.bool false) w := run_neq_ptr_same w a Yba.underlying56 (by kernel_rfl)
theorem clos8 (w : World) (rc rm b p q s m : Nat) (hs : s < 4611686018427387904) (hne : rc ≠ rm) (hc : w.heap[rc]? = some (.cells #[.int .i64 s] 3 (0, 0))) (hm : w.cell? ⟨rm, 0, none⟩ = some (.int .i64 m)) :
    Calls Yba.prog 8 #[.agg #[.pointer (some ⟨b, 0, none⟩), .int .i64 p], .pointer (some ⟨b, q, none⟩), .pointer (some ⟨rc, 0, none⟩), .pointer (some ⟨rm, 0, none⟩)] w
      fun e w' => e = .returned (.bool (decide (s + 1 < m))) ∧ w'.heap[rc]? = some (.cells #[.int .i64 ((s + 1 : Nat) : Int)] 3 (0, 0)) ∧ Fr (· = rc) w w' := by
  have hcc := cell_of (j := 0) hc rfl
  have hf : w.frozen? ⟨rc, 0, none⟩ = false := free_of hc
  have hlt : rc < w.heap.size := lt_of_some hc
  have hlm : rm < w.heap.size := World.block_lt_of_cell? w _ hm
  go_enter Yba.func8, Yba.ntmps8
  go_wp2
  go_ret
  refine ⟨ret_bool (by rw [Bool.eq_iff_iff]; simp; omega), ?_, ((Fr.refl (· = rc) w).setCell (W := rc) rfl _ _).alloc _⟩
  rw [heap_alloc, if_neg (by rw [size_setCell]; omega), heap_setCell_same hc]; rfl
theorem clos7 (w : World) (rj rt ro rl re rp RL E1 E2 b i s p n tot cap1 cap2 : Nat) (hs : tot < 4611686018427387904) (hst : s < tot) (hi : i < n) (hp : p < 16)
    (hj : w.heap[rj]? = some (.cells #[.int .i64 s] 3 (0, 0))) (ht : w.cell? ⟨rt, 0, none⟩ = some (.int .i64 tot))
    (hl : w.cell? ⟨rl, 0, none⟩ = some (.slice (some ⟨RL, 0, none⟩) n n)) (hlc : w.cell? ⟨RL, i, none⟩ = some (.pointer (some ⟨b, 0, none⟩)))
    (he : w.cell? ⟨re, 0, none⟩ = some (.slice (some ⟨E1, 0, none⟩) tot cap1)) (hec : w.cell? ⟨E1, s, none⟩ = some (.int .i64 i))
    (hq : w.cell? ⟨rp, 0, none⟩ = some (.slice (some ⟨E2, 0, none⟩) tot cap2)) (hqc : w.cell? ⟨E2, s, none⟩ = some (.int .i64 p))
    (hsq : w.cell? ⟨b, 25 + p * 11 + 3, none⟩ = some (.int .u64 ((s : Int) + 1))) (hdl : w.cell? ⟨b, 25 + p * 11 + 9, none⟩ = some (.bool (((s : Int) + 1) % 3 == 0))) :
    Calls Yba.prog 7 #[.agg #[.pointer (some ⟨b, 0, none⟩), .int .i64 p], .pointer (some ⟨b, 25 + p * 11, none⟩), .pointer (some ⟨rj, 0, none⟩), .pointer (some ⟨rt, 0, none⟩), .pointer (some ⟨ro, 0, none⟩), .pointer (some ⟨rl, 0, none⟩), .pointer (some ⟨re, 0, none⟩), .pointer (some ⟨rp, 0, none⟩)] w
      fun e w' => e = .returned (.bool true) ∧ w'.heap[rj]? = some (.cells #[.int .i64 ((s + 1 : Nat) : Int)] 3 (0, 0)) ∧ Fr (· = rj) w w' := by
  have hcc := cell_of (j := 0) hj rfl
  have hf : w.frozen? ⟨rj, 0, none⟩ = false := free_of hj
  have hlt : rj < w.heap.size := lt_of_some hj
  have l1 : rt < w.heap.size := World.block_lt_of_cell? w _ ht
  have l2 : rl < w.heap.size := World.block_lt_of_cell? w _ hl
  have l3 : re < w.heap.size := World.block_lt_of_cell? w _ he
  have l4 : rp < w.heap.size := World.block_lt_of_cell? w _ hq
  have l5 : RL < w.heap.size := World.block_lt_of_cell? w _ hlc
  have l6 : E1 < w.heap.size := World.block_lt_of_cell? w _ hec
  have l7 : E2 < w.heap.size := World.block_lt_of_cell? w _ hqc
  have l8 : b < w.heap.size := World.block_lt_of_cell? w _ hsq
  have i1 : (s : Int) < tot := by omega
  have i2 : (i : Int) < n := by omega
  have i3 : (p : Int) < 16 := by omega
  have i4 : ¬ (s : Int) ≥ tot := by omega
  have n1 := neq26 ⟨b, 0, none⟩
  have n2 := neq56 ⟨b, 25 + p * 11, none⟩
  go_enter Yba.func7, Yba.ntmps7
  go_wp2
  go_quiet (fail)
  go_wp2
  go_ret
  refine ⟨rfl, ?_, (((Fr.refl (· = rj) w).alloc _).drewN _).setCell (W := rj) rfl _ _⟩
  rw [heap_setCell_same (c := #[.int .i64 s]) (t := 3) (f := (0, 0)) (show ((World.alloc w _).drewN nq).heap[rj]? = _ from heap_alloc_old hj)]; rfl
end Go.Proofs.Ybulkcftm
