import Derived.Test.YbulkcfriEq
import Derived.Test.YbulkcfriGoFar
namespace Go.Proofs.Ybulkcfri
open Go.ChangeShapes Go.WideShapes Go.ChangeAt Go.RowKit

set_option maxRecDepth 100000 in
set_option maxHeartbeats 3200000 in
theorem remote_far (a0 a1 a2 u : ByteArray) (a3 a4 a5 a6 : Int) (a8 : Bool) (w : World) (hs0 : a0.size ≤ 140737488355328)
    (hu : ((a1.toList == a0.toList) = true ∧ u = a0 ++ ⟨#[120]⟩) ∨ ((a1.toList == a0.toList) = false ∧ u = a1)) (hua : (u.toList == a0.toList) = false) (hus : (u.toList == a2.toList) = false) :
    Calls Yba.prog 3 #[.string a0, .string a1, .string a2, .int .u64 a3, .int .u64 a4, .int .u64 a5, .int .u64 a6, .bool false, .bool a8] w fun e w' => e = .returned (.bool true) ∧ Below w.heap.size w w' := by
  have hmm := @run_makeMap Yba.prog
  have hn : (a0.size : Int) + 1 ≤ 9223372036854775807 := by omega
  have HUA : Hid ((u.toList == a0.toList) = false) := hua
  clear hua
  have HUS : Hid ((u.toList == a2.toList) = false) := hus
  clear hus
  rcases hu with ⟨he, hu⟩ | ⟨he, hu⟩
  · have HE : Hid (u = a0 ++ ⟨#[120]⟩) := hu
    clear hu
    go_enter Yba.func3, Yba.ntmps3
    go_wp2_with fail
    rw [← HE.out]
    clear HE he hn hs0
    refine (newSite_any a0 w).mono ?_
    rintro e w1 ⟨fn, q, S, r7, r17, r18, r19, rfl, hSw, hb1, hblk, hfour⟩
    have HB : Hid (w1.heap[S]? = some (.cells (siteCells a0 fn q r7 r17 r18 r19) 71 (0, 0))) := hblk
    have HF : Hid (Four w.heap.size w1 r7 r17 r18 r19) := hfour
    have HB1 : Hid (Below w.heap.size w w1) := hb1
    clear hblk hfour hb1
    go_wp2_with fail
    have hsz1 := HB1.out.size
    have hSl := lt_of_some HB.out
    have k1 : ((((w1.alloc (.map #[] 0)).alloc (.map #[] 0)).alloc (.cells #[.int .u64 a5, .int .u64 a6, .string a2, .map (some w1.heap.size), .map (some (w1.heap.size + 1)), .slice none 0 0, .slice none 0 0, .slice none 0 0, .slice none 0 0, .pointer none] 37)).alloc (.cells #[.int .u64 a3, .int .u64 a4] 39)).heap[S]? = some (.cells (siteCells a0 fn q r7 r17 r18 r19) 71 (0, 0)) := heap_alloc_old (heap_alloc_old (heap_alloc_old (heap_alloc_old HB.out)))
    have k2 : ((((w1.alloc (.map #[] 0)).alloc (.map #[] 0)).alloc (.cells #[.int .u64 a5, .int .u64 a6, .string a2, .map (some w1.heap.size), .map (some (w1.heap.size + 1)), .slice none 0 0, .slice none 0 0, .slice none 0 0, .slice none 0 0, .pointer none] 37)).alloc (.cells #[.int .u64 a3, .int .u64 a4] 39)).heap[w1.heap.size + 1 + 1]? = some (.cells (walkCells a5 a6 a2 (.map (some w1.heap.size)) (.map (some (w1.heap.size + 1))) (.slice none 0 0) (.slice none 0 0) (.slice none 0 0) (.slice none 0 0) (.pointer none)) 37 (0, 0)) := by
      rw [heap_alloc, if_neg (by simp), heap_alloc, if_pos (by simp)]; rfl
    have k3 : Emp ((((w1.alloc (.map #[] 0)).alloc (.map #[] 0)).alloc (.cells #[.int .u64 a5, .int .u64 a6, .string a2, .map (some w1.heap.size), .map (some (w1.heap.size + 1)), .slice none 0 0, .slice none 0 0, .slice none 0 0, .slice none 0 0, .pointer none] 37)).alloc (.cells #[.int .u64 a3, .int .u64 a4] 39)) r19 := (((HF.out.2.2.2.2.1.ext (below_alloc _ _)).ext (below_alloc _ _)).ext (below_alloc _ _)).ext (below_alloc _ _)
    have k4 : Emp ((((w1.alloc (.map #[] 0)).alloc (.map #[] 0)).alloc (.cells #[.int .u64 a5, .int .u64 a6, .string a2, .map (some w1.heap.size), .map (some (w1.heap.size + 1)), .slice none 0 0, .slice none 0 0, .slice none 0 0, .slice none 0 0, .pointer none] 37)).alloc (.cells #[.int .u64 a3, .int .u64 a4] 39)) (w1.heap.size + 1) := by
      unfold Emp
      rw [heap_alloc, if_neg (by simp), heap_alloc, if_neg (by simp), heap_alloc, if_pos (by simp)]
    have k5 : ((((w1.alloc (.map #[] 0)).alloc (.map #[] 0)).alloc (.cells #[.int .u64 a5, .int .u64 a6, .string a2, .map (some w1.heap.size), .map (some (w1.heap.size + 1)), .slice none 0 0, .slice none 0 0, .slice none 0 0, .slice none 0 0, .pointer none] 37)).alloc (.cells #[.int .u64 a3, .int .u64 a4] 39)).heap[w1.heap.size + 1 + 1 + 1]? = some (.cells #[.int .u64 a3, .int .u64 a4] 39 (0, 0)) := by
      rw [heap_alloc, if_pos (by simp)]
    have k6 : Below w.heap.size w ((((w1.alloc (.map #[] 0)).alloc (.map #[] 0)).alloc (.cells #[.int .u64 a5, .int .u64 a6, .string a2, .map (some w1.heap.size), .map (some (w1.heap.size + 1)), .slice none 0 0, .slice none 0 0, .slice none 0 0, .slice none 0 0, .pointer none] 37)).alloc (.cells #[.int .u64 a3, .int .u64 a4] 39)) := (((HB1.out.alloc hsz1 _).alloc (by simp; omega) _).alloc (by simp; omega) _).alloc (by simp; omega) _
    have hr19 := HF.out.1.2.2.2
    have hr19l := HF.out.2.2.2.2.1.lt
    clear HB HF HB1
    generalize ((((w1.alloc (.map #[] 0)).alloc (.map #[] 0)).alloc (.cells #[.int .u64 a5, .int .u64 a6, .string a2, .map (some w1.heap.size), .map (some (w1.heap.size + 1)), .slice none 0 0, .slice none 0 0, .slice none 0 0, .slice none 0 0, .pointer none] 37)).alloc (.cells #[.int .u64 a3, .int .u64 a4] 39)) = w2 at k1 k2 k3 k4 k5 k6 ⊢
    refine (goBack_far S (w1.heap.size + 1 + 1) a0 u a2 a3 a4 a5 a6 _ _ _ _ w2 (cell_of k1 rfl) k2 (by omega) HUA.out HUS.out).mono ?_
    rintro e w3 ⟨rfl, out, found, m2, hone, hfou, hfr⟩
    obtain ⟨g, cap, rfl, hg⟩ := hone
    obtain ⟨gf, capf, rfl, hgf⟩ := hfou
    have m1 := (hfr.block S (lt_of_some k1) (by omega)).trans k1
    have m3 : Emp w3 r19 := (hfr.block r19 k3.lt (by omega)).trans k3
    have m4 : Emp w3 (w1.heap.size + 1) := (hfr.block (w1.heap.size + 1) k4.lt (by omega)).trans k4
    have m5 := (hfr.block (w1.heap.size + 1 + 1 + 1) (lt_of_some k5) (by omega)).trans k5
    have m6 : Below w.heap.size w w3 := k6.trans (hfr.below k6.size (by intro k hk; omega))
    have HM6 : Hid (Below w.heap.size w w3) := m6
    clear k1 k2 k3 k4 k5 k6 m6 hfr
    have hx1 : ∀ o, (w3.alloc o).heap[S]? = some (.cells (siteCells a0 fn q r7 r17 r18 r19) 71 (0, 0)) := fun o => heap_alloc_old m1
    have c0 : w3.cell? ⟨w1.heap.size + 1 + 1, 0, none⟩ = some (.int .u64 a5) := cell_of m2 rfl
    have c1 : w3.cell? ⟨w1.heap.size + 1 + 1, 1, none⟩ = some (.int .u64 a6) := cell_of m2 rfl
    have c4 : w3.cell? ⟨w1.heap.size + 1 + 1, 4, none⟩ = some (.map (some (w1.heap.size + 1))) := cell_of m2 rfl
    have c6 : w3.cell? ⟨w1.heap.size + 1 + 1, 6, none⟩ = some (.slice none 0 0) := cell_of m2 rfl
    have c7 : w3.cell? ⟨w1.heap.size + 1 + 1, 7, none⟩ = some (.slice (some ⟨g, 0, none⟩) 1 cap) := cell_of m2 rfl
    have c8 : w3.cell? ⟨w1.heap.size + 1 + 1, 8, none⟩ = some (.slice (some ⟨gf, 0, none⟩) 1 capf) := cell_of m2 rfl
    have s19 : w3.cell? ⟨S, 19, none⟩ = some (.map (some r19)) := cell_of m1 rfl
    have o0 : w3.cell? ⟨g, 0, none⟩ = some (.int .i64 4) := hg 0 _ rfl
    have o1 : w3.cell? ⟨g, 1, none⟩ = some (.string a0) := hg 1 _ rfl
    have o2 : w3.cell? ⟨g, 2, none⟩ = some (.string u) := hg 2 _ rfl
    have o3 : w3.cell? ⟨g, 3, none⟩ = some (.int .u64 a5) := hg 3 _ rfl
    have o4 : w3.cell? ⟨g, 4, none⟩ = some (.int .u64 a6) := hg 4 _ rfl
    have o5 : w3.cell? ⟨g, 5, none⟩ = some (.int .u64 a3) := hg 5 _ rfl
    have o6 : w3.cell? ⟨g, 6, none⟩ = some (.int .u64 a4) := hg 6 _ rfl
    have o7 : w3.cell? ⟨g, 7, none⟩ = some (.int .u64 0) := hg 7 _ rfl
    have o8 : w3.cell? ⟨g, 8, none⟩ = some (.string a2) := hg 8 _ rfl
    have o9 : w3.cell? ⟨g, 9, none⟩ = some (.slice none 0 0) := hg 9 _ rfl
    have o10 : w3.cell? ⟨g, 10, none⟩ = some (.slice none 0 0) := hg 10 _ rfl
    have o11 : w3.cell? ⟨g, 11, none⟩ = some (.bool false) := hg 11 _ rfl
    have o12 : w3.cell? ⟨g, 12, none⟩ = some (.bool false) := hg 12 _ rfl
    have hgl := World.block_lt_of_cell? w3 _ o0
    have hWl := lt_of_some m2
    have hSl3 := lt_of_some m1
    simp only at hgl
    have hl1 : ∀ o n, Sem.run Yba.prog (Builtin.len_ #[64] 3 #[.map (some r19)]) ((w3.alloc o).drewN n) = .ok (.int .i64 0) ((w3.alloc o).drewN n) := fun o n => MapIs.len (w := (w3.alloc o).drewN n) (K := 75) Yba.underlying64 ((MapIs.empty (w := w3.alloc o) 75 (m3.ext (below_alloc w3 o))).of_block rfl) 3
    have hl2 : ∀ o n, Sem.run Yba.prog (Builtin.len_ #[30] 3 #[.map (some (w1.heap.size + 1))]) ((w3.alloc o).drewN n) = .ok (.int .i64 0) ((w3.alloc o).drewN n) := fun o n => MapIs.len (w := (w3.alloc o).drewN n) (K := 22) Yba.underlying30 ((MapIs.empty (w := w3.alloc o) 22 (m4.ext (below_alloc w3 o))).of_block rfl) 3
    have v0 : w3.cell? ⟨w1.heap.size + 1 + 1 + 1, 0, none⟩ = some (.int .u64 a3) := cell_of m5 rfl
    have v1 : w3.cell? ⟨w1.heap.size + 1 + 1 + 1, 1, none⟩ = some (.int .u64 a4) := cell_of m5 rfl
    have hVl := lt_of_some m5
    have p0 : w3.cell? ⟨gf, 0, none⟩ = some (.int .u64 a3) := hgf 0 _ rfl
    have p1 : w3.cell? ⟨gf, 1, none⟩ = some (.int .u64 a4) := hgf 1 _ rfl
    have hgfl := World.block_lt_of_cell? w3 _ p0
    simp only at hgfl
    clear hgf
    clear hg m1 m2 m3 m4 m5 hx1
    have hus := HUS.out
    have hq29 := eqg29
    have hn29 := neq29
    have hq39 := eqg39
    have he39 := eql39
    have hns34 := fun (a : Option Addr) (n c n' c' : Nat) (w : World) => run_neq_slice_nil_any (P := Yba.prog) w 34 39 a n c n' c' Yba.underlying34
    have hns47 := fun (a : Option Addr) (n c n' c' : Nat) (w : World) => run_neq_slice_nil_any (P := Yba.prog) w 47 135 a n c n' c' Yba.underlying47
    go_wp2
    simp only [List.append]
    go_quiet (fail)
    go_wp2
    go_quiet (fail)
    go_wp2
    go_ret
    exact ⟨rfl, (HM6.out.alloc HM6.out.size _).trans ⟨rfl, rfl, rfl, Nat.le_refl _, fun _ _ => rfl⟩⟩

  · subst hu
    clear hn hs0
    go_enter Yba.func3, Yba.ntmps3
    go_wp2_with fail
    clear he
    refine (newSite_any a0 w).mono ?_
    rintro e w1 ⟨fn, q, S, r7, r17, r18, r19, rfl, hSw, hb1, hblk, hfour⟩
    have HB : Hid (w1.heap[S]? = some (.cells (siteCells a0 fn q r7 r17 r18 r19) 71 (0, 0))) := hblk
    have HF : Hid (Four w.heap.size w1 r7 r17 r18 r19) := hfour
    have HB1 : Hid (Below w.heap.size w w1) := hb1
    clear hblk hfour hb1
    go_wp2_with fail
    have hsz1 := HB1.out.size
    have hSl := lt_of_some HB.out
    have k1 : ((((w1.alloc (.map #[] 0)).alloc (.map #[] 0)).alloc (.cells #[.int .u64 a5, .int .u64 a6, .string a2, .map (some w1.heap.size), .map (some (w1.heap.size + 1)), .slice none 0 0, .slice none 0 0, .slice none 0 0, .slice none 0 0, .pointer none] 37)).alloc (.cells #[.int .u64 a3, .int .u64 a4] 39)).heap[S]? = some (.cells (siteCells a0 fn q r7 r17 r18 r19) 71 (0, 0)) := heap_alloc_old (heap_alloc_old (heap_alloc_old (heap_alloc_old HB.out)))
    have k2 : ((((w1.alloc (.map #[] 0)).alloc (.map #[] 0)).alloc (.cells #[.int .u64 a5, .int .u64 a6, .string a2, .map (some w1.heap.size), .map (some (w1.heap.size + 1)), .slice none 0 0, .slice none 0 0, .slice none 0 0, .slice none 0 0, .pointer none] 37)).alloc (.cells #[.int .u64 a3, .int .u64 a4] 39)).heap[w1.heap.size + 1 + 1]? = some (.cells (walkCells a5 a6 a2 (.map (some w1.heap.size)) (.map (some (w1.heap.size + 1))) (.slice none 0 0) (.slice none 0 0) (.slice none 0 0) (.slice none 0 0) (.pointer none)) 37 (0, 0)) := by
      rw [heap_alloc, if_neg (by simp), heap_alloc, if_pos (by simp)]; rfl
    have k3 : Emp ((((w1.alloc (.map #[] 0)).alloc (.map #[] 0)).alloc (.cells #[.int .u64 a5, .int .u64 a6, .string a2, .map (some w1.heap.size), .map (some (w1.heap.size + 1)), .slice none 0 0, .slice none 0 0, .slice none 0 0, .slice none 0 0, .pointer none] 37)).alloc (.cells #[.int .u64 a3, .int .u64 a4] 39)) r19 := (((HF.out.2.2.2.2.1.ext (below_alloc _ _)).ext (below_alloc _ _)).ext (below_alloc _ _)).ext (below_alloc _ _)
    have k4 : Emp ((((w1.alloc (.map #[] 0)).alloc (.map #[] 0)).alloc (.cells #[.int .u64 a5, .int .u64 a6, .string a2, .map (some w1.heap.size), .map (some (w1.heap.size + 1)), .slice none 0 0, .slice none 0 0, .slice none 0 0, .slice none 0 0, .pointer none] 37)).alloc (.cells #[.int .u64 a3, .int .u64 a4] 39)) (w1.heap.size + 1) := by
      unfold Emp
      rw [heap_alloc, if_neg (by simp), heap_alloc, if_neg (by simp), heap_alloc, if_pos (by simp)]
    have k5 : ((((w1.alloc (.map #[] 0)).alloc (.map #[] 0)).alloc (.cells #[.int .u64 a5, .int .u64 a6, .string a2, .map (some w1.heap.size), .map (some (w1.heap.size + 1)), .slice none 0 0, .slice none 0 0, .slice none 0 0, .slice none 0 0, .pointer none] 37)).alloc (.cells #[.int .u64 a3, .int .u64 a4] 39)).heap[w1.heap.size + 1 + 1 + 1]? = some (.cells #[.int .u64 a3, .int .u64 a4] 39 (0, 0)) := by
      rw [heap_alloc, if_pos (by simp)]
    have k6 : Below w.heap.size w ((((w1.alloc (.map #[] 0)).alloc (.map #[] 0)).alloc (.cells #[.int .u64 a5, .int .u64 a6, .string a2, .map (some w1.heap.size), .map (some (w1.heap.size + 1)), .slice none 0 0, .slice none 0 0, .slice none 0 0, .slice none 0 0, .pointer none] 37)).alloc (.cells #[.int .u64 a3, .int .u64 a4] 39)) := (((HB1.out.alloc hsz1 _).alloc (by simp; omega) _).alloc (by simp; omega) _).alloc (by simp; omega) _
    have hr19 := HF.out.1.2.2.2
    have hr19l := HF.out.2.2.2.2.1.lt
    clear HB HF HB1
    generalize ((((w1.alloc (.map #[] 0)).alloc (.map #[] 0)).alloc (.cells #[.int .u64 a5, .int .u64 a6, .string a2, .map (some w1.heap.size), .map (some (w1.heap.size + 1)), .slice none 0 0, .slice none 0 0, .slice none 0 0, .slice none 0 0, .pointer none] 37)).alloc (.cells #[.int .u64 a3, .int .u64 a4] 39)) = w2 at k1 k2 k3 k4 k5 k6 ⊢
    refine (goBack_far S (w1.heap.size + 1 + 1) a0 u a2 a3 a4 a5 a6 _ _ _ _ w2 (cell_of k1 rfl) k2 (by omega) HUA.out HUS.out).mono ?_
    rintro e w3 ⟨rfl, out, found, m2, hone, hfou, hfr⟩
    obtain ⟨g, cap, rfl, hg⟩ := hone
    obtain ⟨gf, capf, rfl, hgf⟩ := hfou
    have m1 := (hfr.block S (lt_of_some k1) (by omega)).trans k1
    have m3 : Emp w3 r19 := (hfr.block r19 k3.lt (by omega)).trans k3
    have m4 : Emp w3 (w1.heap.size + 1) := (hfr.block (w1.heap.size + 1) k4.lt (by omega)).trans k4
    have m5 := (hfr.block (w1.heap.size + 1 + 1 + 1) (lt_of_some k5) (by omega)).trans k5
    have m6 : Below w.heap.size w w3 := k6.trans (hfr.below k6.size (by intro k hk; omega))
    have HM6 : Hid (Below w.heap.size w w3) := m6
    clear k1 k2 k3 k4 k5 k6 m6 hfr
    have hx1 : ∀ o, (w3.alloc o).heap[S]? = some (.cells (siteCells a0 fn q r7 r17 r18 r19) 71 (0, 0)) := fun o => heap_alloc_old m1
    have c0 : w3.cell? ⟨w1.heap.size + 1 + 1, 0, none⟩ = some (.int .u64 a5) := cell_of m2 rfl
    have c1 : w3.cell? ⟨w1.heap.size + 1 + 1, 1, none⟩ = some (.int .u64 a6) := cell_of m2 rfl
    have c4 : w3.cell? ⟨w1.heap.size + 1 + 1, 4, none⟩ = some (.map (some (w1.heap.size + 1))) := cell_of m2 rfl
    have c6 : w3.cell? ⟨w1.heap.size + 1 + 1, 6, none⟩ = some (.slice none 0 0) := cell_of m2 rfl
    have c7 : w3.cell? ⟨w1.heap.size + 1 + 1, 7, none⟩ = some (.slice (some ⟨g, 0, none⟩) 1 cap) := cell_of m2 rfl
    have c8 : w3.cell? ⟨w1.heap.size + 1 + 1, 8, none⟩ = some (.slice (some ⟨gf, 0, none⟩) 1 capf) := cell_of m2 rfl
    have s19 : w3.cell? ⟨S, 19, none⟩ = some (.map (some r19)) := cell_of m1 rfl
    have o0 : w3.cell? ⟨g, 0, none⟩ = some (.int .i64 4) := hg 0 _ rfl
    have o1 : w3.cell? ⟨g, 1, none⟩ = some (.string a0) := hg 1 _ rfl
    have o2 : w3.cell? ⟨g, 2, none⟩ = some (.string u) := hg 2 _ rfl
    have o3 : w3.cell? ⟨g, 3, none⟩ = some (.int .u64 a5) := hg 3 _ rfl
    have o4 : w3.cell? ⟨g, 4, none⟩ = some (.int .u64 a6) := hg 4 _ rfl
    have o5 : w3.cell? ⟨g, 5, none⟩ = some (.int .u64 a3) := hg 5 _ rfl
    have o6 : w3.cell? ⟨g, 6, none⟩ = some (.int .u64 a4) := hg 6 _ rfl
    have o7 : w3.cell? ⟨g, 7, none⟩ = some (.int .u64 0) := hg 7 _ rfl
    have o8 : w3.cell? ⟨g, 8, none⟩ = some (.string a2) := hg 8 _ rfl
    have o9 : w3.cell? ⟨g, 9, none⟩ = some (.slice none 0 0) := hg 9 _ rfl
    have o10 : w3.cell? ⟨g, 10, none⟩ = some (.slice none 0 0) := hg 10 _ rfl
    have o11 : w3.cell? ⟨g, 11, none⟩ = some (.bool false) := hg 11 _ rfl
    have o12 : w3.cell? ⟨g, 12, none⟩ = some (.bool false) := hg 12 _ rfl
    have hgl := World.block_lt_of_cell? w3 _ o0
    have hWl := lt_of_some m2
    have hSl3 := lt_of_some m1
    simp only at hgl
    have hl1 : ∀ o n, Sem.run Yba.prog (Builtin.len_ #[64] 3 #[.map (some r19)]) ((w3.alloc o).drewN n) = .ok (.int .i64 0) ((w3.alloc o).drewN n) := fun o n => MapIs.len (w := (w3.alloc o).drewN n) (K := 75) Yba.underlying64 ((MapIs.empty (w := w3.alloc o) 75 (m3.ext (below_alloc w3 o))).of_block rfl) 3
    have hl2 : ∀ o n, Sem.run Yba.prog (Builtin.len_ #[30] 3 #[.map (some (w1.heap.size + 1))]) ((w3.alloc o).drewN n) = .ok (.int .i64 0) ((w3.alloc o).drewN n) := fun o n => MapIs.len (w := (w3.alloc o).drewN n) (K := 22) Yba.underlying30 ((MapIs.empty (w := w3.alloc o) 22 (m4.ext (below_alloc w3 o))).of_block rfl) 3
    have v0 : w3.cell? ⟨w1.heap.size + 1 + 1 + 1, 0, none⟩ = some (.int .u64 a3) := cell_of m5 rfl
    have v1 : w3.cell? ⟨w1.heap.size + 1 + 1 + 1, 1, none⟩ = some (.int .u64 a4) := cell_of m5 rfl
    have hVl := lt_of_some m5
    have p0 : w3.cell? ⟨gf, 0, none⟩ = some (.int .u64 a3) := hgf 0 _ rfl
    have p1 : w3.cell? ⟨gf, 1, none⟩ = some (.int .u64 a4) := hgf 1 _ rfl
    have hgfl := World.block_lt_of_cell? w3 _ p0
    simp only at hgfl
    clear hgf
    clear hg m1 m2 m3 m4 m5 hx1
    have hus := HUS.out
    have hq29 := eqg29
    have hn29 := neq29
    have hq39 := eqg39
    have he39 := eql39
    have hns34 := fun (a : Option Addr) (n c n' c' : Nat) (w : World) => run_neq_slice_nil_any (P := Yba.prog) w 34 39 a n c n' c' Yba.underlying34
    have hns47 := fun (a : Option Addr) (n c n' c' : Nat) (w : World) => run_neq_slice_nil_any (P := Yba.prog) w 47 135 a n c n' c' Yba.underlying47
    go_wp2
    simp only [List.append]
    go_quiet (fail)
    go_wp2
    go_quiet (fail)
    go_wp2
    go_ret
    exact ⟨rfl, (HM6.out.alloc HM6.out.size _).trans ⟨rfl, rfl, rfl, Nat.le_refl _, fun _ _ => rfl⟩⟩

end Go.Proofs.Ybulkcfri
