import Derived.Test.YbulkcfriEq
import Derived.Test.YbulkcfriGoPortion
import Derived.Test.YbulkcfriPortion
namespace Go.Proofs.Ybulkcfri
open Go.ChangeShapes Go.WideShapes Go.ChangeAt Go.RowKit

set_option maxRecDepth 100000 in
set_option maxHeartbeats 3200000 in
theorem remote_known (a0 a1 a2 u : ByteArray) (a3 a4 a5 a6 : Int) (w : World) (hs0 : a0.size ≤ 140737488355328)
    (hu : ((a1.toList == a0.toList) = true ∧ u = a0 ++ ⟨#[120]⟩) ∨ ((a1.toList == a0.toList) = false ∧ u = a1)) (hua : (u.toList == a0.toList) = false) (hw3 : (Lit.int .u64 a3).wf = true) (hw4 : (Lit.int .u64 a4).wf = true) :
    Calls Yba.prog 3 #[.string a0, .string a1, .string a2, .int .u64 a3, .int .u64 a4, .int .u64 a5, .int .u64 a6, .bool true, .bool true] w fun e w' => e = .returned (.bool true) ∧ Below w.heap.size w w' := by
  have hmm := @run_makeMap Yba.prog
  have hn : (a0.size : Int) + 1 ≤ 9223372036854775807 := by omega
  have HUA : Hid ((u.toList == a0.toList) = false) := hua
  clear hua
  have HW3 : Hid ((Lit.int .u64 a3).wf = true) := hw3
  have HW4 : Hid ((Lit.int .u64 a4).wf = true) := hw4
  clear hw3 hw4
  rcases hu with ⟨he, hu⟩ | ⟨he, hu⟩
  · have HE : Hid (u = a0 ++ ⟨#[120]⟩) := hu
    clear hu
    go_enter Yba.func3, Yba.ntmps3
    go_wp2_with fail
    rw [← HE.out]
    clear HE he hn hs0
    refine (newSite_any a0 w).mono ?_
    rintro e w1 ⟨fn, q, S, r7, r17, r18, r19, rfl, hSw, hb1, hblk, hfour⟩
    have HB : Hid (w1.heap[S]? = some (.cells (siteCells a0 fn q r7 r17 r18 r19) 71 (0, 0))) := hblk
    have HF : Hid (Four w.heap.size w1 r7 r17 r18 r19) := hfour
    have HB1 : Hid (Below w.heap.size w w1) := hb1
    clear hblk hfour hb1
    go_wp2_with fail
    have hsz1 := HB1.out.size
    have hSl := lt_of_some HB.out
    have k1 : ((((((w1.alloc (.map #[] 0)).alloc (.map #[] 0)).alloc (.cells #[.int .u64 a5, .int .u64 a6, .string a2, .map (some w1.heap.size), .map (some (w1.heap.size + 1)), .slice none 0 0, .slice none 0 0, .slice none 0 0, .slice none 0 0, .pointer (some ⟨w1.heap.size + 1 + 1 + 1 + 1 + 1, 0, none⟩)] 37)).alloc (.cells #[.int .u64 a3, .int .u64 a4] 39)).alloc (.map #[] 0)).alloc (.cells #[.int .u64 a5, .int .u64 a6, .map (some (w1.heap.size + 1 + 1 + 1 + 1)), .slice none 0 0] 42)).heap[S]? = some (.cells (siteCells a0 fn q r7 r17 r18 r19) 71 (0, 0)) := heap_alloc_old (heap_alloc_old (heap_alloc_old (heap_alloc_old (heap_alloc_old (heap_alloc_old HB.out)))))
    have k2 : ((((((w1.alloc (.map #[] 0)).alloc (.map #[] 0)).alloc (.cells #[.int .u64 a5, .int .u64 a6, .string a2, .map (some w1.heap.size), .map (some (w1.heap.size + 1)), .slice none 0 0, .slice none 0 0, .slice none 0 0, .slice none 0 0, .pointer (some ⟨w1.heap.size + 1 + 1 + 1 + 1 + 1, 0, none⟩)] 37)).alloc (.cells #[.int .u64 a3, .int .u64 a4] 39)).alloc (.map #[] 0)).alloc (.cells #[.int .u64 a5, .int .u64 a6, .map (some (w1.heap.size + 1 + 1 + 1 + 1)), .slice none 0 0] 42)).heap[w1.heap.size + 1 + 1]? = some (.cells (walkCells a5 a6 a2 (.map (some w1.heap.size)) (.map (some (w1.heap.size + 1))) (.slice none 0 0) (.slice none 0 0) (.slice none 0 0) (.slice none 0 0) (.pointer (some ⟨w1.heap.size + 1 + 1 + 1 + 1 + 1, 0, none⟩))) 37 (0, 0)) := by
      rw [heap_alloc, if_neg (by simp), heap_alloc, if_neg (by simp), heap_alloc, if_neg (by simp), heap_alloc, if_pos (by simp)]; rfl
    have k3 : Emp ((((((w1.alloc (.map #[] 0)).alloc (.map #[] 0)).alloc (.cells #[.int .u64 a5, .int .u64 a6, .string a2, .map (some w1.heap.size), .map (some (w1.heap.size + 1)), .slice none 0 0, .slice none 0 0, .slice none 0 0, .slice none 0 0, .pointer (some ⟨w1.heap.size + 1 + 1 + 1 + 1 + 1, 0, none⟩)] 37)).alloc (.cells #[.int .u64 a3, .int .u64 a4] 39)).alloc (.map #[] 0)).alloc (.cells #[.int .u64 a5, .int .u64 a6, .map (some (w1.heap.size + 1 + 1 + 1 + 1)), .slice none 0 0] 42)) r19 := (((((HF.out.2.2.2.2.1.ext (below_alloc _ _)).ext (below_alloc _ _)).ext (below_alloc _ _)).ext (below_alloc _ _)).ext (below_alloc _ _)).ext (below_alloc _ _)
    have k4 : Emp ((((((w1.alloc (.map #[] 0)).alloc (.map #[] 0)).alloc (.cells #[.int .u64 a5, .int .u64 a6, .string a2, .map (some w1.heap.size), .map (some (w1.heap.size + 1)), .slice none 0 0, .slice none 0 0, .slice none 0 0, .slice none 0 0, .pointer (some ⟨w1.heap.size + 1 + 1 + 1 + 1 + 1, 0, none⟩)] 37)).alloc (.cells #[.int .u64 a3, .int .u64 a4] 39)).alloc (.map #[] 0)).alloc (.cells #[.int .u64 a5, .int .u64 a6, .map (some (w1.heap.size + 1 + 1 + 1 + 1)), .slice none 0 0] 42)) (w1.heap.size + 1) := by
      unfold Emp
      rw [heap_alloc, if_neg (by simp), heap_alloc, if_neg (by simp), heap_alloc, if_neg (by simp), heap_alloc, if_neg (by simp), heap_alloc, if_pos (by simp)]
    have k5 : ((((((w1.alloc (.map #[] 0)).alloc (.map #[] 0)).alloc (.cells #[.int .u64 a5, .int .u64 a6, .string a2, .map (some w1.heap.size), .map (some (w1.heap.size + 1)), .slice none 0 0, .slice none 0 0, .slice none 0 0, .slice none 0 0, .pointer (some ⟨w1.heap.size + 1 + 1 + 1 + 1 + 1, 0, none⟩)] 37)).alloc (.cells #[.int .u64 a3, .int .u64 a4] 39)).alloc (.map #[] 0)).alloc (.cells #[.int .u64 a5, .int .u64 a6, .map (some (w1.heap.size + 1 + 1 + 1 + 1)), .slice none 0 0] 42)).heap[w1.heap.size + 1 + 1 + 1]? = some (.cells #[.int .u64 a3, .int .u64 a4] 39 (0, 0)) := by
      rw [heap_alloc, if_neg (by simp), heap_alloc, if_neg (by simp), heap_alloc, if_pos (by simp)]
    have k6 : Below w.heap.size w ((((((w1.alloc (.map #[] 0)).alloc (.map #[] 0)).alloc (.cells #[.int .u64 a5, .int .u64 a6, .string a2, .map (some w1.heap.size), .map (some (w1.heap.size + 1)), .slice none 0 0, .slice none 0 0, .slice none 0 0, .slice none 0 0, .pointer (some ⟨w1.heap.size + 1 + 1 + 1 + 1 + 1, 0, none⟩)] 37)).alloc (.cells #[.int .u64 a3, .int .u64 a4] 39)).alloc (.map #[] 0)).alloc (.cells #[.int .u64 a5, .int .u64 a6, .map (some (w1.heap.size + 1 + 1 + 1 + 1)), .slice none 0 0] 42)) := (((((HB1.out.alloc hsz1 _).alloc (by simp; omega) _).alloc (by simp; omega) _).alloc (by simp; omega) _).alloc (by simp; omega) _).alloc (by simp; omega) _
    have k7 : ((((((w1.alloc (.map #[] 0)).alloc (.map #[] 0)).alloc (.cells #[.int .u64 a5, .int .u64 a6, .string a2, .map (some w1.heap.size), .map (some (w1.heap.size + 1)), .slice none 0 0, .slice none 0 0, .slice none 0 0, .slice none 0 0, .pointer (some ⟨w1.heap.size + 1 + 1 + 1 + 1 + 1, 0, none⟩)] 37)).alloc (.cells #[.int .u64 a3, .int .u64 a4] 39)).alloc (.map #[] 0)).alloc (.cells #[.int .u64 a5, .int .u64 a6, .map (some (w1.heap.size + 1 + 1 + 1 + 1)), .slice none 0 0] 42)).heap[w1.heap.size + 1 + 1 + 1 + 1 + 1]? = some (.cells #[.int .u64 a5, .int .u64 a6, .map (some (w1.heap.size + 1 + 1 + 1 + 1)), .slice none 0 0] 42 (0, 0)) := by
      rw [heap_alloc, if_pos (by simp)]
    have k8 : MapIs Yba.prog 39 ((((((w1.alloc (.map #[] 0)).alloc (.map #[] 0)).alloc (.cells #[.int .u64 a5, .int .u64 a6, .string a2, .map (some w1.heap.size), .map (some (w1.heap.size + 1)), .slice none 0 0, .slice none 0 0, .slice none 0 0, .slice none 0 0, .pointer (some ⟨w1.heap.size + 1 + 1 + 1 + 1 + 1, 0, none⟩)] 37)).alloc (.cells #[.int .u64 a3, .int .u64 a4] 39)).alloc (.map #[] 0)).alloc (.cells #[.int .u64 a5, .int .u64 a6, .map (some (w1.heap.size + 1 + 1 + 1 + 1)), .slice none 0 0] 42)) (w1.heap.size + 1 + 1 + 1 + 1) (fun _ => none) 0 := by
      refine MapIs.empty 39 (clock := 0) ?_
      rw [heap_alloc, if_neg (by simp), heap_alloc, if_pos (by simp)]
    have hr19 := HF.out.1.2.2.2
    have hr19l := HF.out.2.2.2.2.1.lt
    clear HB HF HB1
    generalize ((((((w1.alloc (.map #[] 0)).alloc (.map #[] 0)).alloc (.cells #[.int .u64 a5, .int .u64 a6, .string a2, .map (some w1.heap.size), .map (some (w1.heap.size + 1)), .slice none 0 0, .slice none 0 0, .slice none 0 0, .slice none 0 0, .pointer (some ⟨w1.heap.size + 1 + 1 + 1 + 1 + 1, 0, none⟩)] 37)).alloc (.cells #[.int .u64 a3, .int .u64 a4] 39)).alloc (.map #[] 0)).alloc (.cells #[.int .u64 a5, .int .u64 a6, .map (some (w1.heap.size + 1 + 1 + 1 + 1)), .slice none 0 0] 42)) = w2 at k1 k2 k3 k4 k5 k6 k7 k8 ⊢
    have hPl := lt_of_some k7
    obtain ⟨lk, hkk⟩ := key39 HW3.out HW4.out
    obtain ⟨w2', f, hrun, n8, hf8, _, hgr, hgz⟩ := MapIs.update law39 Yba.underlying40 k8.drew hkk (.bool true)
    have d9 : w2.cell? ⟨w1.heap.size + 1 + 1, 9, none⟩ = some (.pointer (some ⟨w1.heap.size + 1 + 1 + 1 + 1 + 1, 0, none⟩)) := cell_of k2 rfl
    have d2 : w2.cell? ⟨w1.heap.size + 1 + 1 + 1 + 1 + 1, 2, none⟩ = some (.map (some (w1.heap.size + 1 + 1 + 1 + 1))) := cell_of k7 rfl
    have dv0 : w2.cell? ⟨w1.heap.size + 1 + 1 + 1, 0, none⟩ = some (.int .u64 a3) := cell_of k5 rfl
    have dv1 : w2.cell? ⟨w1.heap.size + 1 + 1 + 1, 1, none⟩ = some (.int .u64 a4) := cell_of k5 rfl
    have j1 := (hgr.block S (lt_of_some k1) (by simp; omega)).trans k1
    have j2 := (hgr.block (w1.heap.size + 1 + 1) (lt_of_some k2) (by simp)).trans k2
    have j3 : Emp w2' r19 := (hgr.block r19 k3.lt (by simp; omega)).trans k3
    have j4 : Emp w2' (w1.heap.size + 1) := (hgr.block (w1.heap.size + 1) k4.lt (by simp)).trans k4
    have j5 := (hgr.block (w1.heap.size + 1 + 1 + 1) (lt_of_some k5) (by simp)).trans k5
    have j7 := (hgr.block (w1.heap.size + 1 + 1 + 1 + 1 + 1) (lt_of_some k7) (by simp)).trans k7
    have j6 : Below w.heap.size w w2' := k6.trans (Below.grown (Below.refl w.heap.size w2) ⟨hgr.os, hgr.tape, hgr.output, hgr.size, hgr.block⟩ k6.size (fun k hk => by cases hk; omega))
    have J1 : Hid (w2'.heap[S]? = some (.cells (siteCells a0 fn q r7 r17 r18 r19) 71 (0, 0))) := j1
    have J2 : Hid (w2'.heap[w1.heap.size + 1 + 1]? = some (.cells (walkCells a5 a6 a2 (.map (some w1.heap.size)) (.map (some (w1.heap.size + 1))) (.slice none 0 0) (.slice none 0 0) (.slice none 0 0) (.slice none 0 0) (.pointer (some ⟨w1.heap.size + 1 + 1 + 1 + 1 + 1, 0, none⟩))) 37 (0, 0))) := j2
    have J3 : Hid (Emp w2' r19) := j3
    have J4 : Hid (Emp w2' (w1.heap.size + 1)) := j4
    have J5 : Hid (w2'.heap[w1.heap.size + 1 + 1 + 1]? = some (.cells #[.int .u64 a3, .int .u64 a4] 39 (0, 0))) := j5
    have J6 : Hid (Below w.heap.size w w2') := j6
    have J7 : Hid (w2'.heap[w1.heap.size + 1 + 1 + 1 + 1 + 1]? = some (.cells #[.int .u64 a5, .int .u64 a6, .map (some (w1.heap.size + 1 + 1 + 1 + 1)), .slice none 0 0] 42 (0, 0))) := j7
    have J8 : Hid (MapIs Yba.prog 39 w2' (w1.heap.size + 1 + 1 + 1 + 1) f 1) := n8
    have JF : Hid (f (.agg #[.int .u64 a3, .int .u64 a4]) = some (.bool true)) := hf8
    clear j1 j2 j3 j4 j5 j6 j7 n8 hf8 k1 k2 k3 k4 k5 k6 k7 k8 hgr hgz hkk
    go_region
    clear hrun d9 d2 dv0 dv1
    go_wp2_with fail
    have k1 := J1.out
    have k2 := J2.out
    have k3 := J3.out
    have k4 := J4.out
    have k5 := J5.out
    have k6 := J6.out
    have k7 := J7.out
    have k8 := J8.out
    have hPl2 := lt_of_some k7
    have hml2 := k8.lt
    clear J1 J2 J3 J4 J5 J6 J7 J8
    refine (goBack_portion S (w1.heap.size + 1 + 1) (w1.heap.size + 1 + 1 + 1 + 1 + 1) a0 u a2 a3 a4 a5 a6 _ _ _ _ w2' (cell_of k1 rfl) k2 (by omega) HUA.out (fun k => k = w1.heap.size + 1 + 1 + 1 + 1 + 1 ∨ k = w1.heap.size + 1 + 1 + 1 + 1) (by omega) (by omega) (by intro k hk; omega)
      (fun w' => w'.heap[w1.heap.size + 1 + 1 + 1 + 1 + 1]? = some (.cells #[.int .u64 a5, .int .u64 a6, .map (some (w1.heap.size + 1 + 1 + 1 + 1)), .slice none 0 0] 42 (0, 0)) ∧ MapIs Yba.prog 39 w' (w1.heap.size + 1 + 1 + 1 + 1) f 1)
      (fun wa hf => (add_known (w1.heap.size + 1 + 1 + 1 + 1 + 1) (w1.heap.size + 1 + 1 + 1 + 1) a3 a4 _ _ _ f 1 wa ((hf.block _ hPl2 id).trans k7) (k8.of_block (hf.block _ hml2 id)) HW3.out HW4.out JF.out).mono
        (fun e w' h => by
          obtain ⟨he, hb⟩ := h
          exact ⟨he, ⟨(hb.block _ (Nat.lt_of_lt_of_le hPl2 hf.size)).trans ((hf.block _ hPl2 id).trans k7), k8.of_block ((hb.block _ (Nat.lt_of_lt_of_le hml2 hf.size)).trans (hf.block _ hml2 id))⟩, Fr.of_below hb _⟩))
      (fun wa wb h hf => ⟨(hf.block _ (lt_of_some h.1) (by omega)).trans h.1, h.2.of_block (hf.block _ h.2.lt (by omega))⟩)).mono ?_
    rintro e w3 ⟨rfl, out, m2, hone, ⟨m7, m8⟩, hfr⟩
    obtain ⟨g, cap, rfl, hg⟩ := hone
    have hf8 := JF.out
    clear k7 k8 JF
    have m1 := (hfr.block S (lt_of_some k1) (by omega)).trans k1
    have m3 : Emp w3 r19 := (hfr.block r19 k3.lt (by omega)).trans k3
    have m4 : Emp w3 (w1.heap.size + 1) := (hfr.block (w1.heap.size + 1) k4.lt (by omega)).trans k4
    have m5 := (hfr.block (w1.heap.size + 1 + 1 + 1) (lt_of_some k5) (by omega)).trans k5
    have m6 : Below w.heap.size w w3 := k6.trans (hfr.below k6.size (by intro k hk; omega))
    have HM6 : Hid (Below w.heap.size w w3) := m6
    clear k1 k2 k3 k4 k5 k6 m6 hfr
    have hx1 : ∀ o, (w3.alloc o).heap[S]? = some (.cells (siteCells a0 fn q r7 r17 r18 r19) 71 (0, 0)) := fun o => heap_alloc_old m1
    have c0 : w3.cell? ⟨w1.heap.size + 1 + 1, 0, none⟩ = some (.int .u64 a5) := cell_of m2 rfl
    have c1 : w3.cell? ⟨w1.heap.size + 1 + 1, 1, none⟩ = some (.int .u64 a6) := cell_of m2 rfl
    have c4 : w3.cell? ⟨w1.heap.size + 1 + 1, 4, none⟩ = some (.map (some (w1.heap.size + 1))) := cell_of m2 rfl
    have c6 : w3.cell? ⟨w1.heap.size + 1 + 1, 6, none⟩ = some (.slice none 0 0) := cell_of m2 rfl
    have c7 : w3.cell? ⟨w1.heap.size + 1 + 1, 7, none⟩ = some (.slice (some ⟨g, 0, none⟩) 1 cap) := cell_of m2 rfl
    have c8 : w3.cell? ⟨w1.heap.size + 1 + 1, 8, none⟩ = some (.slice none 0 0) := cell_of m2 rfl
    have s19 : w3.cell? ⟨S, 19, none⟩ = some (.map (some r19)) := cell_of m1 rfl
    have o0 : w3.cell? ⟨g, 0, none⟩ = some (.int .i64 4) := hg 0 _ rfl
    have o1 : w3.cell? ⟨g, 1, none⟩ = some (.string a0) := hg 1 _ rfl
    have o2 : w3.cell? ⟨g, 2, none⟩ = some (.string u) := hg 2 _ rfl
    have o3 : w3.cell? ⟨g, 3, none⟩ = some (.int .u64 a5) := hg 3 _ rfl
    have o4 : w3.cell? ⟨g, 4, none⟩ = some (.int .u64 a6) := hg 4 _ rfl
    have o5 : w3.cell? ⟨g, 5, none⟩ = some (.int .u64 a3) := hg 5 _ rfl
    have o6 : w3.cell? ⟨g, 6, none⟩ = some (.int .u64 a4) := hg 6 _ rfl
    have o7 : w3.cell? ⟨g, 7, none⟩ = some (.int .u64 0) := hg 7 _ rfl
    have o8 : w3.cell? ⟨g, 8, none⟩ = some (.string a2) := hg 8 _ rfl
    have o9 : w3.cell? ⟨g, 9, none⟩ = some (.slice none 0 0) := hg 9 _ rfl
    have o10 : w3.cell? ⟨g, 10, none⟩ = some (.slice none 0 0) := hg 10 _ rfl
    have o11 : w3.cell? ⟨g, 11, none⟩ = some (.bool false) := hg 11 _ rfl
    have o12 : w3.cell? ⟨g, 12, none⟩ = some (.bool false) := hg 12 _ rfl
    have hgl := World.block_lt_of_cell? w3 _ o0
    have hWl := lt_of_some m2
    have hSl3 := lt_of_some m1
    simp only at hgl
    have hl1 : ∀ o n, Sem.run Yba.prog (Builtin.len_ #[64] 3 #[.map (some r19)]) ((w3.alloc o).drewN n) = .ok (.int .i64 0) ((w3.alloc o).drewN n) := fun o n => MapIs.len (w := (w3.alloc o).drewN n) (K := 75) Yba.underlying64 ((MapIs.empty (w := w3.alloc o) 75 (m3.ext (below_alloc w3 o))).of_block rfl) 3
    have hl2 : ∀ o n, Sem.run Yba.prog (Builtin.len_ #[30] 3 #[.map (some (w1.heap.size + 1))]) ((w3.alloc o).drewN n) = .ok (.int .i64 0) ((w3.alloc o).drewN n) := fun o n => MapIs.len (w := (w3.alloc o).drewN n) (K := 22) Yba.underlying30 ((MapIs.empty (w := w3.alloc o) 22 (m4.ext (below_alloc w3 o))).of_block rfl) 3
    have v0 : w3.cell? ⟨w1.heap.size + 1 + 1 + 1, 0, none⟩ = some (.int .u64 a3) := cell_of m5 rfl
    have v1 : w3.cell? ⟨w1.heap.size + 1 + 1 + 1, 1, none⟩ = some (.int .u64 a4) := cell_of m5 rfl
    have hVl := lt_of_some m5
    have c9 : w3.cell? ⟨w1.heap.size + 1 + 1, 9, none⟩ = some (.pointer (some ⟨w1.heap.size + 1 + 1 + 1 + 1 + 1, 0, none⟩)) := cell_of m2 rfl
    have t2 : w3.cell? ⟨w1.heap.size + 1 + 1 + 1 + 1 + 1, 2, none⟩ = some (.map (some (w1.heap.size + 1 + 1 + 1 + 1))) := cell_of m7 rfl
    have t3 : w3.cell? ⟨w1.heap.size + 1 + 1 + 1 + 1 + 1, 3, none⟩ = some (.slice none 0 0) := cell_of m7 rfl
    have hPl3 := lt_of_some m7
    obtain ⟨l, hkey⟩ := key39 HW3.out HW4.out
    have hlk : ∀ o n, Sem.run Yba.prog (Instr.lookup 40 (.map (some (w1.heap.size + 1 + 1 + 1 + 1))) (.agg #[.int .u64 a3, .int .u64 a4]) false) ((w3.alloc o).drewN n) = .ok (.bool true) ((w3.alloc o).drewN n) := by
      intro o n
      have := MapIs.lookup (w := (w3.alloc o).drewN n) law39 Yba.underlying40 (zero4 _) ((m8.alloc o).of_block rfl) hkey false
      rw [hf8] at this
      exact this
    have hl3 : ∀ o n, Sem.run Yba.prog (Builtin.len_ #[40] 3 #[.map (some (w1.heap.size + 1 + 1 + 1 + 1))]) ((w3.alloc o).drewN n) = .ok (.int .i64 1) ((w3.alloc o).drewN n) := fun o n => MapIs.len (w := (w3.alloc o).drewN n) Yba.underlying40 ((m8.alloc o).of_block rfl) 3
    clear m7 m8 hf8 hkey
    clear hg m1 m2 m3 m4 m5 hx1
    have hq29 := eqg29
    have hn29 := neq29
    have hq39 := eqg39
    have he39 := eql39
    have hns34 := fun (a : Option Addr) (n c n' c' : Nat) (w : World) => run_neq_slice_nil_any (P := Yba.prog) w 34 39 a n c n' c' Yba.underlying34
    have hns47 := fun (a : Option Addr) (n c n' c' : Nat) (w : World) => run_neq_slice_nil_any (P := Yba.prog) w 47 135 a n c n' c' Yba.underlying47
    go_wp2
    simp only [List.append]
    go_quiet (fail)
    go_wp2
    go_quiet (fail)
    go_wp2
    go_ret
    exact ⟨rfl, (HM6.out.alloc HM6.out.size _).trans ⟨rfl, rfl, rfl, Nat.le_refl _, fun _ _ => rfl⟩⟩

  · subst hu
    clear hn hs0
    go_enter Yba.func3, Yba.ntmps3
    go_wp2_with fail
    clear he
    refine (newSite_any a0 w).mono ?_
    rintro e w1 ⟨fn, q, S, r7, r17, r18, r19, rfl, hSw, hb1, hblk, hfour⟩
    have HB : Hid (w1.heap[S]? = some (.cells (siteCells a0 fn q r7 r17 r18 r19) 71 (0, 0))) := hblk
    have HF : Hid (Four w.heap.size w1 r7 r17 r18 r19) := hfour
    have HB1 : Hid (Below w.heap.size w w1) := hb1
    clear hblk hfour hb1
    go_wp2_with fail
    have hsz1 := HB1.out.size
    have hSl := lt_of_some HB.out
    have k1 : ((((((w1.alloc (.map #[] 0)).alloc (.map #[] 0)).alloc (.cells #[.int .u64 a5, .int .u64 a6, .string a2, .map (some w1.heap.size), .map (some (w1.heap.size + 1)), .slice none 0 0, .slice none 0 0, .slice none 0 0, .slice none 0 0, .pointer (some ⟨w1.heap.size + 1 + 1 + 1 + 1 + 1, 0, none⟩)] 37)).alloc (.cells #[.int .u64 a3, .int .u64 a4] 39)).alloc (.map #[] 0)).alloc (.cells #[.int .u64 a5, .int .u64 a6, .map (some (w1.heap.size + 1 + 1 + 1 + 1)), .slice none 0 0] 42)).heap[S]? = some (.cells (siteCells a0 fn q r7 r17 r18 r19) 71 (0, 0)) := heap_alloc_old (heap_alloc_old (heap_alloc_old (heap_alloc_old (heap_alloc_old (heap_alloc_old HB.out)))))
    have k2 : ((((((w1.alloc (.map #[] 0)).alloc (.map #[] 0)).alloc (.cells #[.int .u64 a5, .int .u64 a6, .string a2, .map (some w1.heap.size), .map (some (w1.heap.size + 1)), .slice none 0 0, .slice none 0 0, .slice none 0 0, .slice none 0 0, .pointer (some ⟨w1.heap.size + 1 + 1 + 1 + 1 + 1, 0, none⟩)] 37)).alloc (.cells #[.int .u64 a3, .int .u64 a4] 39)).alloc (.map #[] 0)).alloc (.cells #[.int .u64 a5, .int .u64 a6, .map (some (w1.heap.size + 1 + 1 + 1 + 1)), .slice none 0 0] 42)).heap[w1.heap.size + 1 + 1]? = some (.cells (walkCells a5 a6 a2 (.map (some w1.heap.size)) (.map (some (w1.heap.size + 1))) (.slice none 0 0) (.slice none 0 0) (.slice none 0 0) (.slice none 0 0) (.pointer (some ⟨w1.heap.size + 1 + 1 + 1 + 1 + 1, 0, none⟩))) 37 (0, 0)) := by
      rw [heap_alloc, if_neg (by simp), heap_alloc, if_neg (by simp), heap_alloc, if_neg (by simp), heap_alloc, if_pos (by simp)]; rfl
    have k3 : Emp ((((((w1.alloc (.map #[] 0)).alloc (.map #[] 0)).alloc (.cells #[.int .u64 a5, .int .u64 a6, .string a2, .map (some w1.heap.size), .map (some (w1.heap.size + 1)), .slice none 0 0, .slice none 0 0, .slice none 0 0, .slice none 0 0, .pointer (some ⟨w1.heap.size + 1 + 1 + 1 + 1 + 1, 0, none⟩)] 37)).alloc (.cells #[.int .u64 a3, .int .u64 a4] 39)).alloc (.map #[] 0)).alloc (.cells #[.int .u64 a5, .int .u64 a6, .map (some (w1.heap.size + 1 + 1 + 1 + 1)), .slice none 0 0] 42)) r19 := (((((HF.out.2.2.2.2.1.ext (below_alloc _ _)).ext (below_alloc _ _)).ext (below_alloc _ _)).ext (below_alloc _ _)).ext (below_alloc _ _)).ext (below_alloc _ _)
    have k4 : Emp ((((((w1.alloc (.map #[] 0)).alloc (.map #[] 0)).alloc (.cells #[.int .u64 a5, .int .u64 a6, .string a2, .map (some w1.heap.size), .map (some (w1.heap.size + 1)), .slice none 0 0, .slice none 0 0, .slice none 0 0, .slice none 0 0, .pointer (some ⟨w1.heap.size + 1 + 1 + 1 + 1 + 1, 0, none⟩)] 37)).alloc (.cells #[.int .u64 a3, .int .u64 a4] 39)).alloc (.map #[] 0)).alloc (.cells #[.int .u64 a5, .int .u64 a6, .map (some (w1.heap.size + 1 + 1 + 1 + 1)), .slice none 0 0] 42)) (w1.heap.size + 1) := by
      unfold Emp
      rw [heap_alloc, if_neg (by simp), heap_alloc, if_neg (by simp), heap_alloc, if_neg (by simp), heap_alloc, if_neg (by simp), heap_alloc, if_pos (by simp)]
    have k5 : ((((((w1.alloc (.map #[] 0)).alloc (.map #[] 0)).alloc (.cells #[.int .u64 a5, .int .u64 a6, .string a2, .map (some w1.heap.size), .map (some (w1.heap.size + 1)), .slice none 0 0, .slice none 0 0, .slice none 0 0, .slice none 0 0, .pointer (some ⟨w1.heap.size + 1 + 1 + 1 + 1 + 1, 0, none⟩)] 37)).alloc (.cells #[.int .u64 a3, .int .u64 a4] 39)).alloc (.map #[] 0)).alloc (.cells #[.int .u64 a5, .int .u64 a6, .map (some (w1.heap.size + 1 + 1 + 1 + 1)), .slice none 0 0] 42)).heap[w1.heap.size + 1 + 1 + 1]? = some (.cells #[.int .u64 a3, .int .u64 a4] 39 (0, 0)) := by
      rw [heap_alloc, if_neg (by simp), heap_alloc, if_neg (by simp), heap_alloc, if_pos (by simp)]
    have k6 : Below w.heap.size w ((((((w1.alloc (.map #[] 0)).alloc (.map #[] 0)).alloc (.cells #[.int .u64 a5, .int .u64 a6, .string a2, .map (some w1.heap.size), .map (some (w1.heap.size + 1)), .slice none 0 0, .slice none 0 0, .slice none 0 0, .slice none 0 0, .pointer (some ⟨w1.heap.size + 1 + 1 + 1 + 1 + 1, 0, none⟩)] 37)).alloc (.cells #[.int .u64 a3, .int .u64 a4] 39)).alloc (.map #[] 0)).alloc (.cells #[.int .u64 a5, .int .u64 a6, .map (some (w1.heap.size + 1 + 1 + 1 + 1)), .slice none 0 0] 42)) := (((((HB1.out.alloc hsz1 _).alloc (by simp; omega) _).alloc (by simp; omega) _).alloc (by simp; omega) _).alloc (by simp; omega) _).alloc (by simp; omega) _
    have k7 : ((((((w1.alloc (.map #[] 0)).alloc (.map #[] 0)).alloc (.cells #[.int .u64 a5, .int .u64 a6, .string a2, .map (some w1.heap.size), .map (some (w1.heap.size + 1)), .slice none 0 0, .slice none 0 0, .slice none 0 0, .slice none 0 0, .pointer (some ⟨w1.heap.size + 1 + 1 + 1 + 1 + 1, 0, none⟩)] 37)).alloc (.cells #[.int .u64 a3, .int .u64 a4] 39)).alloc (.map #[] 0)).alloc (.cells #[.int .u64 a5, .int .u64 a6, .map (some (w1.heap.size + 1 + 1 + 1 + 1)), .slice none 0 0] 42)).heap[w1.heap.size + 1 + 1 + 1 + 1 + 1]? = some (.cells #[.int .u64 a5, .int .u64 a6, .map (some (w1.heap.size + 1 + 1 + 1 + 1)), .slice none 0 0] 42 (0, 0)) := by
      rw [heap_alloc, if_pos (by simp)]
    have k8 : MapIs Yba.prog 39 ((((((w1.alloc (.map #[] 0)).alloc (.map #[] 0)).alloc (.cells #[.int .u64 a5, .int .u64 a6, .string a2, .map (some w1.heap.size), .map (some (w1.heap.size + 1)), .slice none 0 0, .slice none 0 0, .slice none 0 0, .slice none 0 0, .pointer (some ⟨w1.heap.size + 1 + 1 + 1 + 1 + 1, 0, none⟩)] 37)).alloc (.cells #[.int .u64 a3, .int .u64 a4] 39)).alloc (.map #[] 0)).alloc (.cells #[.int .u64 a5, .int .u64 a6, .map (some (w1.heap.size + 1 + 1 + 1 + 1)), .slice none 0 0] 42)) (w1.heap.size + 1 + 1 + 1 + 1) (fun _ => none) 0 := by
      refine MapIs.empty 39 (clock := 0) ?_
      rw [heap_alloc, if_neg (by simp), heap_alloc, if_pos (by simp)]
    have hr19 := HF.out.1.2.2.2
    have hr19l := HF.out.2.2.2.2.1.lt
    clear HB HF HB1
    generalize ((((((w1.alloc (.map #[] 0)).alloc (.map #[] 0)).alloc (.cells #[.int .u64 a5, .int .u64 a6, .string a2, .map (some w1.heap.size), .map (some (w1.heap.size + 1)), .slice none 0 0, .slice none 0 0, .slice none 0 0, .slice none 0 0, .pointer (some ⟨w1.heap.size + 1 + 1 + 1 + 1 + 1, 0, none⟩)] 37)).alloc (.cells #[.int .u64 a3, .int .u64 a4] 39)).alloc (.map #[] 0)).alloc (.cells #[.int .u64 a5, .int .u64 a6, .map (some (w1.heap.size + 1 + 1 + 1 + 1)), .slice none 0 0] 42)) = w2 at k1 k2 k3 k4 k5 k6 k7 k8 ⊢
    have hPl := lt_of_some k7
    obtain ⟨lk, hkk⟩ := key39 HW3.out HW4.out
    obtain ⟨w2', f, hrun, n8, hf8, _, hgr, hgz⟩ := MapIs.update law39 Yba.underlying40 k8.drew hkk (.bool true)
    have d9 : w2.cell? ⟨w1.heap.size + 1 + 1, 9, none⟩ = some (.pointer (some ⟨w1.heap.size + 1 + 1 + 1 + 1 + 1, 0, none⟩)) := cell_of k2 rfl
    have d2 : w2.cell? ⟨w1.heap.size + 1 + 1 + 1 + 1 + 1, 2, none⟩ = some (.map (some (w1.heap.size + 1 + 1 + 1 + 1))) := cell_of k7 rfl
    have dv0 : w2.cell? ⟨w1.heap.size + 1 + 1 + 1, 0, none⟩ = some (.int .u64 a3) := cell_of k5 rfl
    have dv1 : w2.cell? ⟨w1.heap.size + 1 + 1 + 1, 1, none⟩ = some (.int .u64 a4) := cell_of k5 rfl
    have j1 := (hgr.block S (lt_of_some k1) (by simp; omega)).trans k1
    have j2 := (hgr.block (w1.heap.size + 1 + 1) (lt_of_some k2) (by simp)).trans k2
    have j3 : Emp w2' r19 := (hgr.block r19 k3.lt (by simp; omega)).trans k3
    have j4 : Emp w2' (w1.heap.size + 1) := (hgr.block (w1.heap.size + 1) k4.lt (by simp)).trans k4
    have j5 := (hgr.block (w1.heap.size + 1 + 1 + 1) (lt_of_some k5) (by simp)).trans k5
    have j7 := (hgr.block (w1.heap.size + 1 + 1 + 1 + 1 + 1) (lt_of_some k7) (by simp)).trans k7
    have j6 : Below w.heap.size w w2' := k6.trans (Below.grown (Below.refl w.heap.size w2) ⟨hgr.os, hgr.tape, hgr.output, hgr.size, hgr.block⟩ k6.size (fun k hk => by cases hk; omega))
    have J1 : Hid (w2'.heap[S]? = some (.cells (siteCells a0 fn q r7 r17 r18 r19) 71 (0, 0))) := j1
    have J2 : Hid (w2'.heap[w1.heap.size + 1 + 1]? = some (.cells (walkCells a5 a6 a2 (.map (some w1.heap.size)) (.map (some (w1.heap.size + 1))) (.slice none 0 0) (.slice none 0 0) (.slice none 0 0) (.slice none 0 0) (.pointer (some ⟨w1.heap.size + 1 + 1 + 1 + 1 + 1, 0, none⟩))) 37 (0, 0))) := j2
    have J3 : Hid (Emp w2' r19) := j3
    have J4 : Hid (Emp w2' (w1.heap.size + 1)) := j4
    have J5 : Hid (w2'.heap[w1.heap.size + 1 + 1 + 1]? = some (.cells #[.int .u64 a3, .int .u64 a4] 39 (0, 0))) := j5
    have J6 : Hid (Below w.heap.size w w2') := j6
    have J7 : Hid (w2'.heap[w1.heap.size + 1 + 1 + 1 + 1 + 1]? = some (.cells #[.int .u64 a5, .int .u64 a6, .map (some (w1.heap.size + 1 + 1 + 1 + 1)), .slice none 0 0] 42 (0, 0))) := j7
    have J8 : Hid (MapIs Yba.prog 39 w2' (w1.heap.size + 1 + 1 + 1 + 1) f 1) := n8
    have JF : Hid (f (.agg #[.int .u64 a3, .int .u64 a4]) = some (.bool true)) := hf8
    clear j1 j2 j3 j4 j5 j6 j7 n8 hf8 k1 k2 k3 k4 k5 k6 k7 k8 hgr hgz hkk
    go_region
    clear hrun d9 d2 dv0 dv1
    go_wp2_with fail
    have k1 := J1.out
    have k2 := J2.out
    have k3 := J3.out
    have k4 := J4.out
    have k5 := J5.out
    have k6 := J6.out
    have k7 := J7.out
    have k8 := J8.out
    have hPl2 := lt_of_some k7
    have hml2 := k8.lt
    clear J1 J2 J3 J4 J5 J6 J7 J8
    refine (goBack_portion S (w1.heap.size + 1 + 1) (w1.heap.size + 1 + 1 + 1 + 1 + 1) a0 u a2 a3 a4 a5 a6 _ _ _ _ w2' (cell_of k1 rfl) k2 (by omega) HUA.out (fun k => k = w1.heap.size + 1 + 1 + 1 + 1 + 1 ∨ k = w1.heap.size + 1 + 1 + 1 + 1) (by omega) (by omega) (by intro k hk; omega)
      (fun w' => w'.heap[w1.heap.size + 1 + 1 + 1 + 1 + 1]? = some (.cells #[.int .u64 a5, .int .u64 a6, .map (some (w1.heap.size + 1 + 1 + 1 + 1)), .slice none 0 0] 42 (0, 0)) ∧ MapIs Yba.prog 39 w' (w1.heap.size + 1 + 1 + 1 + 1) f 1)
      (fun wa hf => (add_known (w1.heap.size + 1 + 1 + 1 + 1 + 1) (w1.heap.size + 1 + 1 + 1 + 1) a3 a4 _ _ _ f 1 wa ((hf.block _ hPl2 id).trans k7) (k8.of_block (hf.block _ hml2 id)) HW3.out HW4.out JF.out).mono
        (fun e w' h => by
          obtain ⟨he, hb⟩ := h
          exact ⟨he, ⟨(hb.block _ (Nat.lt_of_lt_of_le hPl2 hf.size)).trans ((hf.block _ hPl2 id).trans k7), k8.of_block ((hb.block _ (Nat.lt_of_lt_of_le hml2 hf.size)).trans (hf.block _ hml2 id))⟩, Fr.of_below hb _⟩))
      (fun wa wb h hf => ⟨(hf.block _ (lt_of_some h.1) (by omega)).trans h.1, h.2.of_block (hf.block _ h.2.lt (by omega))⟩)).mono ?_
    rintro e w3 ⟨rfl, out, m2, hone, ⟨m7, m8⟩, hfr⟩
    obtain ⟨g, cap, rfl, hg⟩ := hone
    have hf8 := JF.out
    clear k7 k8 JF
    have m1 := (hfr.block S (lt_of_some k1) (by omega)).trans k1
    have m3 : Emp w3 r19 := (hfr.block r19 k3.lt (by omega)).trans k3
    have m4 : Emp w3 (w1.heap.size + 1) := (hfr.block (w1.heap.size + 1) k4.lt (by omega)).trans k4
    have m5 := (hfr.block (w1.heap.size + 1 + 1 + 1) (lt_of_some k5) (by omega)).trans k5
    have m6 : Below w.heap.size w w3 := k6.trans (hfr.below k6.size (by intro k hk; omega))
    have HM6 : Hid (Below w.heap.size w w3) := m6
    clear k1 k2 k3 k4 k5 k6 m6 hfr
    have hx1 : ∀ o, (w3.alloc o).heap[S]? = some (.cells (siteCells a0 fn q r7 r17 r18 r19) 71 (0, 0)) := fun o => heap_alloc_old m1
    have c0 : w3.cell? ⟨w1.heap.size + 1 + 1, 0, none⟩ = some (.int .u64 a5) := cell_of m2 rfl
    have c1 : w3.cell? ⟨w1.heap.size + 1 + 1, 1, none⟩ = some (.int .u64 a6) := cell_of m2 rfl
    have c4 : w3.cell? ⟨w1.heap.size + 1 + 1, 4, none⟩ = some (.map (some (w1.heap.size + 1))) := cell_of m2 rfl
    have c6 : w3.cell? ⟨w1.heap.size + 1 + 1, 6, none⟩ = some (.slice none 0 0) := cell_of m2 rfl
    have c7 : w3.cell? ⟨w1.heap.size + 1 + 1, 7, none⟩ = some (.slice (some ⟨g, 0, none⟩) 1 cap) := cell_of m2 rfl
    have c8 : w3.cell? ⟨w1.heap.size + 1 + 1, 8, none⟩ = some (.slice none 0 0) := cell_of m2 rfl
    have s19 : w3.cell? ⟨S, 19, none⟩ = some (.map (some r19)) := cell_of m1 rfl
    have o0 : w3.cell? ⟨g, 0, none⟩ = some (.int .i64 4) := hg 0 _ rfl
    have o1 : w3.cell? ⟨g, 1, none⟩ = some (.string a0) := hg 1 _ rfl
    have o2 : w3.cell? ⟨g, 2, none⟩ = some (.string u) := hg 2 _ rfl
    have o3 : w3.cell? ⟨g, 3, none⟩ = some (.int .u64 a5) := hg 3 _ rfl
    have o4 : w3.cell? ⟨g, 4, none⟩ = some (.int .u64 a6) := hg 4 _ rfl
    have o5 : w3.cell? ⟨g, 5, none⟩ = some (.int .u64 a3) := hg 5 _ rfl
    have o6 : w3.cell? ⟨g, 6, none⟩ = some (.int .u64 a4) := hg 6 _ rfl
    have o7 : w3.cell? ⟨g, 7, none⟩ = some (.int .u64 0) := hg 7 _ rfl
    have o8 : w3.cell? ⟨g, 8, none⟩ = some (.string a2) := hg 8 _ rfl
    have o9 : w3.cell? ⟨g, 9, none⟩ = some (.slice none 0 0) := hg 9 _ rfl
    have o10 : w3.cell? ⟨g, 10, none⟩ = some (.slice none 0 0) := hg 10 _ rfl
    have o11 : w3.cell? ⟨g, 11, none⟩ = some (.bool false) := hg 11 _ rfl
    have o12 : w3.cell? ⟨g, 12, none⟩ = some (.bool false) := hg 12 _ rfl
    have hgl := World.block_lt_of_cell? w3 _ o0
    have hWl := lt_of_some m2
    have hSl3 := lt_of_some m1
    simp only at hgl
    have hl1 : ∀ o n, Sem.run Yba.prog (Builtin.len_ #[64] 3 #[.map (some r19)]) ((w3.alloc o).drewN n) = .ok (.int .i64 0) ((w3.alloc o).drewN n) := fun o n => MapIs.len (w := (w3.alloc o).drewN n) (K := 75) Yba.underlying64 ((MapIs.empty (w := w3.alloc o) 75 (m3.ext (below_alloc w3 o))).of_block rfl) 3
    have hl2 : ∀ o n, Sem.run Yba.prog (Builtin.len_ #[30] 3 #[.map (some (w1.heap.size + 1))]) ((w3.alloc o).drewN n) = .ok (.int .i64 0) ((w3.alloc o).drewN n) := fun o n => MapIs.len (w := (w3.alloc o).drewN n) (K := 22) Yba.underlying30 ((MapIs.empty (w := w3.alloc o) 22 (m4.ext (below_alloc w3 o))).of_block rfl) 3
    have v0 : w3.cell? ⟨w1.heap.size + 1 + 1 + 1, 0, none⟩ = some (.int .u64 a3) := cell_of m5 rfl
    have v1 : w3.cell? ⟨w1.heap.size + 1 + 1 + 1, 1, none⟩ = some (.int .u64 a4) := cell_of m5 rfl
    have hVl := lt_of_some m5
    have c9 : w3.cell? ⟨w1.heap.size + 1 + 1, 9, none⟩ = some (.pointer (some ⟨w1.heap.size + 1 + 1 + 1 + 1 + 1, 0, none⟩)) := cell_of m2 rfl
    have t2 : w3.cell? ⟨w1.heap.size + 1 + 1 + 1 + 1 + 1, 2, none⟩ = some (.map (some (w1.heap.size + 1 + 1 + 1 + 1))) := cell_of m7 rfl
    have t3 : w3.cell? ⟨w1.heap.size + 1 + 1 + 1 + 1 + 1, 3, none⟩ = some (.slice none 0 0) := cell_of m7 rfl
    have hPl3 := lt_of_some m7
    obtain ⟨l, hkey⟩ := key39 HW3.out HW4.out
    have hlk : ∀ o n, Sem.run Yba.prog (Instr.lookup 40 (.map (some (w1.heap.size + 1 + 1 + 1 + 1))) (.agg #[.int .u64 a3, .int .u64 a4]) false) ((w3.alloc o).drewN n) = .ok (.bool true) ((w3.alloc o).drewN n) := by
      intro o n
      have := MapIs.lookup (w := (w3.alloc o).drewN n) law39 Yba.underlying40 (zero4 _) ((m8.alloc o).of_block rfl) hkey false
      rw [hf8] at this
      exact this
    have hl3 : ∀ o n, Sem.run Yba.prog (Builtin.len_ #[40] 3 #[.map (some (w1.heap.size + 1 + 1 + 1 + 1))]) ((w3.alloc o).drewN n) = .ok (.int .i64 1) ((w3.alloc o).drewN n) := fun o n => MapIs.len (w := (w3.alloc o).drewN n) Yba.underlying40 ((m8.alloc o).of_block rfl) 3
    clear m7 m8 hf8 hkey
    clear hg m1 m2 m3 m4 m5 hx1
    have hq29 := eqg29
    have hn29 := neq29
    have hq39 := eqg39
    have he39 := eql39
    have hns34 := fun (a : Option Addr) (n c n' c' : Nat) (w : World) => run_neq_slice_nil_any (P := Yba.prog) w 34 39 a n c n' c' Yba.underlying34
    have hns47 := fun (a : Option Addr) (n c n' c' : Nat) (w : World) => run_neq_slice_nil_any (P := Yba.prog) w 47 135 a n c n' c' Yba.underlying47
    go_wp2
    simp only [List.append]
    go_quiet (fail)
    go_wp2
    go_quiet (fail)
    go_wp2
    go_ret
    exact ⟨rfl, (HM6.out.alloc HM6.out.size _).trans ⟨rfl, rfl, rfl, Nat.le_refl _, fun _ _ => rfl⟩⟩

end Go.Proofs.Ybulkcfri
