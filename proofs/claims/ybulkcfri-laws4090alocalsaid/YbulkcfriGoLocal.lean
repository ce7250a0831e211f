import Derived.Test.YbulkcfriArrive
namespace Go.Proofs.Ybulkcfri
open Go.ChangeShapes Go.WideShapes Go.ChangeAt Go.RowKit Go.MuLone
theorem zero39' : (Yba.prog.info? 39).map (fun i => (i.zero, i.size, i.bytes)) = some (some (.agg #[.int .u64 0, .int .u64 0]), 2, 16) := by kernel_rfl
set_option maxRecDepth 100000 in
set_option maxHeartbeats 2000000 in
theorem goBack_local (S W : Nat) (site home : ByteArray) (up p idI idN : Int) (m1 m2 ga gb : Value) (R : World → Value → World → Prop) (w : World)
    (hS : w.cell? ⟨S, 0, none⟩ = some (.string site)) (hW : w.heap[W]? = some (.cells (walkCells idI idN home m1 m2 ga gb (.slice none 0 0) (.slice none 0 0) (.pointer none)) 37 (0, 0))) (hSW : S ≠ W)
    (hA : ∀ w1 fv, Fr (· = W) w w1 → w1.heap[W]? = some (.cells (walkCells idI idN home m1 m2 ga gb (.slice none 0 0) fv (.pointer none)) 37 (0, 0)) → (((site.toList == home.toList) = true ∧ fv = .slice none 0 0) ∨ ((site.toList == home.toList) = false ∧ w1.ownsRow w.heap.size 39 2 fv 1 [.int .u64 up, .int .u64 p])) →
      Calls Yba.prog 20 #[.pointer (some ⟨S, 0, none⟩), .pointer (some ⟨W, 0, none⟩), .int .u64 up, .int .u64 p] w1 fun e w' => e = .returned (.tuple #[]) ∧ R w1 fv w') :
    Calls Yba.prog 8 #[.pointer (some ⟨S, 0, none⟩), .pointer (some ⟨W, 0, none⟩), .agg #[.int .u64 up, .string site], .int .u64 p] w fun e w' => e = .returned (.tuple #[]) ∧ ∃ w1 fv, Fr (· = W) w w1 ∧ w1.heap[W]? = some (.cells (walkCells idI idN home m1 m2 ga gb (.slice none 0 0) fv (.pointer none)) 37 (0, 0)) ∧ (((site.toList == home.toList) = true ∧ fv = .slice none 0 0) ∨ ((site.toList == home.toList) = false ∧ w1.ownsRow w.heap.size 39 2 fv 1 [.int .u64 up, .int .u64 p])) ∧ R w1 fv w' := by
  have HA : Hid (∀ w1 fv, Fr (· = W) w w1 → w1.heap[W]? = some (.cells (walkCells idI idN home m1 m2 ga gb (.slice none 0 0) fv (.pointer none)) 37 (0, 0)) → (((site.toList == home.toList) = true ∧ fv = .slice none 0 0) ∨ ((site.toList == home.toList) = false ∧ w1.ownsRow w.heap.size 39 2 fv 1 [.int .u64 up, .int .u64 p])) →
      Calls Yba.prog 20 #[.pointer (some ⟨S, 0, none⟩), .pointer (some ⟨W, 0, none⟩), .int .u64 up, .int .u64 p] w1 fun e w' => e = .returned (.tuple #[]) ∧ R w1 fv w') := hA
  clear hA
  have hSl := World.block_lt_of_cell? w _ hS
  simp only at hSl
  have hWl := lt_of_some hW
  obtain ⟨W1, hW1⟩ : ∃ W1, (w.alloc (.cells #[.int .u64 up, .string site] 45)).alloc (.cells #[.int .u64 up, .int .u64 p] 39) = W1 := ⟨_, rfl⟩
  have hb1 : Below w.heap.size w W1 := by rw [← hW1]; exact (below_alloc _ _).trans ((below_alloc _ _).mono (by rw [size_alloc]; omega))
  have hU : W1.heap[w.heap.size]? = some (.cells #[.int .u64 up, .string site] 45 (0, 0)) := by rw [← hW1, heap_alloc, if_neg (by rw [size_alloc]; omega), heap_alloc, if_pos rfl]
  have hF : W1.heap[w.heap.size + 1]? = some (.cells #[.int .u64 up, .int .u64 p] 39 (0, 0)) := by rw [← hW1, heap_alloc, if_pos (by rw [size_alloc])]
  have hW1b := (hb1.block W hWl).trans hW
  have hS1 : W1.cell? ⟨S, 0, none⟩ = some (.string site) := (World.cell?_of_block (a := ⟨S, 0, none⟩) (hb1.block S hSl)).trans hS
  have u0 := cell_of (j := 0) hU rfl
  have u1 := cell_of (j := 1) hU rfl
  have f0 := cell_of (j := 0) hF rfl
  have f1 := cell_of (j := 1) hF rfl
  have c2 : W1.cell? ⟨W, 2, none⟩ = some (.string home) := cell_of hW1b rfl
  have c9 : W1.cell? ⟨W, 9, none⟩ = some (.pointer none) := cell_of hW1b rfl
  have hself : (site.toList == site.toList) = true := by simp
  obtain ⟨i9, hi9, hz90, hz91, hz92⟩ := info_parts zero39'
  by_cases hsh : (site.toList == home.toList) = true
  · have HSH : Hid ((site.toList == home.toList) = true) := hsh
    go_enter Yba.func8, Yba.ntmps8
    go_wp2
    go_quiet (fail)
    go_wp2
    obtain ⟨W2, hW2⟩ : ∃ W2, W1.drewN nq = W2 := ⟨_, rfl⟩
    rw [hW2]
    have hb2 : Below W1.heap.size W1 W2 := by rw [← hW2]; exact ⟨rfl, rfl, rfl, Nat.le_refl _, fun _ _ => rfl⟩
    have u0' := (World.cell?_of_block (a := ⟨w.heap.size, 0, none⟩) (hb2.block _ (lt_of_some hU))).trans u0
    have u1' := (World.cell?_of_block (a := ⟨w.heap.size, 1, none⟩) (hb2.block _ (lt_of_some hU))).trans u1
    have hS2 : W2.cell? ⟨S, 0, none⟩ = some (.string site) := (World.cell?_of_block (a := ⟨S, 0, none⟩) (hb2.block S (World.block_lt_of_cell? W1 _ hS1))).trans hS1
    have hW2b := (hb2.block W (lt_of_some hW1b)).trans hW1b
    have fr2 : Fr (· = W) w W2 := (Fr.of_below hb1 _).trans (Fr.of_below hb2 _)
    clear hW2
    go_quiet (fail)
    go_wp2_with fail
    have fr3 : Fr (· = W) w (W2.drewN nq) := fr2.drewN _
    have hcase : (((site.toList == home.toList) = true ∧ (Value.slice none 0 0) = .slice none 0 0) ∨ ((site.toList == home.toList) = false ∧ (W2.drewN nq).ownsRow w.heap.size 39 2 (.slice none 0 0) 1 [.int .u64 up, .int .u64 p])) := .inl ⟨HSH.out, rfl⟩
    refine (HA.out (W2.drewN nq) (.slice none 0 0) fr3 hW2b hcase).mono ?_
    rintro e w5 ⟨rfl, hR⟩
    go_wp2
    refine bodyPost_end (results_none rfl _ _ _) rfl ?_
    exact ⟨rfl, W2.drewN nq, .slice none 0 0, fr3, hW2b, .inl ⟨HSH.out, rfl⟩, hR⟩
  · have hsh2 : (site.toList == home.toList) = false := by simpa using hsh
    clear hsh
    have HSH : Hid ((site.toList == home.toList) = false) := hsh2
    go_enter Yba.func8, Yba.ntmps8
    go_wp2
    go_quiet (fail)
    go_wp2
    obtain ⟨W2, hW2⟩ : ∃ W2, W1.drewN nq = W2 := ⟨_, rfl⟩
    rw [hW2]
    have hb2 : Below W1.heap.size W1 W2 := by rw [← hW2]; exact ⟨rfl, rfl, rfl, Nat.le_refl _, fun _ _ => rfl⟩
    have hU2 := (hb2.block _ (lt_of_some hU)).trans hU
    have hF2 := (hb2.block _ (lt_of_some hF)).trans hF
    have hS2 : W2.cell? ⟨S, 0, none⟩ = some (.string site) := (World.cell?_of_block (a := ⟨S, 0, none⟩) (hb2.block S (World.block_lt_of_cell? W1 _ hS1))).trans hS1
    have hW2b := (hb2.block W (lt_of_some hW1b)).trans hW1b
    have fr2 : Fr (· = W) w W2 := (Fr.of_below hb1 _).trans (Fr.of_below hb2 _)
    have t8 : W2.cell? ⟨W, 8, none⟩ = some (.slice none 0 0) := cell_of hW2b rfl
    have f0' := cell_of (j := 0) hF2 rfl
    have f1' := cell_of (j := 1) hF2 rfl
    have lF2 := lt_of_some hF2
    have lW2 := lt_of_some hW2b
    have lS2 := World.block_lt_of_cell? W2 _ hS2
    have hsz2 : w.heap.size ≤ W2.heap.size := fr2.size
    clear hW2
    have hB3 : w.heap.size ≤ (W2.alloc (.cells #[.int .u64 up, .int .u64 p] 39)).heap.size := by rw [size_alloc]; omega
    go_region_law (refine step_append_own rfl _ _ 34 rfl w.heap.size 39 i9 _ 2 16 Yba.underlying34 hi9 hz90 hz91 hz92 rfl (by decide) (.slice none 0 0) 0 [] rfl (World.ownsRow_nil _ _ _ _) ⟨W2.heap.size, 0, none⟩ 1 1 [.int .u64 up, .int .u64 p] rfl rfl (newsAt (show (World.alloc W2 _).heap[W2.heap.size]? = _ from by rw [heap_alloc, if_pos rfl] <;> rfl)) (by intro z hz; simp at hz; rcases hz with rfl | rfl <;> rfl) (by unfold maxLen; omega) (by omega) (by exact hB3) ?_; intro v' w5 ho hg hn hat; have hgb : ∀ k, k < W2.heap.size → w5.heap[k]? = W2.heap[k]? := (fun k hk => (hg.block k (Nat.lt_of_lt_of_le hk (by show W2.heap.size ≤ (World.alloc W2 _).heap.size; rw [size_alloc]; omega)) (fun e => by cases e)).trans (Below.heap_alloc W2 _ k hk)); have hW5 := (hgb W lW2).trans hW2b; have t85 : w5.cell? ⟨W, 8, none⟩ = some (.slice none 0 0) := cell_of hW5 rfl; have f85 : w5.frozen? ⟨W, 8, none⟩ = false := free_of hW5; obtain ⟨a7, c7, hge7⟩ := own_slice ho; subst hge7)
    all_goals
      have hWZ : (w5.setCell ⟨W, 8, none⟩ (.slice a7 (0 + 1) c7)).heap[W]? = some (.cells (walkCells idI idN home m1 m2 ga gb (.slice none 0 0) (.slice a7 (0 + 1) c7) (.pointer none)) 37 (0, 0)) := by rw [heap_setCell_same hW5]; rfl
      have hUZ : (w5.setCell ⟨W, 8, none⟩ (.slice a7 (0 + 1) c7)).heap[w.heap.size]? = some (.cells #[.int .u64 up, .string site] 45 (0, 0)) := by
        rw [heap_setCell_other (by show W ≠ w.heap.size; omega), hgb _ (lt_of_some hU2)]; exact hU2
      have hSZ : (w5.setCell ⟨W, 8, none⟩ (.slice a7 (0 + 1) c7)).cell? ⟨S, 0, none⟩ = some (.string site) := cell_set_other hSW ((World.cell?_of_block (a := ⟨S, 0, none⟩) (hgb S lS2)).trans hS2)
      have hoZ : (w5.setCell ⟨W, 8, none⟩ (.slice a7 (0 + 1) c7)).ownsRow w.heap.size 39 2 (.slice a7 (0 + 1) c7) 1 [.int .u64 up, .int .u64 p] := own_fr ho ((Fr.refl (· = W) w5).setCell (W := W) rfl _ _) (fun k hk => by
        obtain ⟨cu, h3⟩ := own_tag ho hk
        exact tag_ne h3 hW5 (by decide))
      have frZ : Fr (· = W) w (w5.setCell ⟨W, 8, none⟩ (.slice a7 (0 + 1) c7)) := ((fr2.alloc _).drew.trans (Fr.of_grown hg (fun k e => by cases e))).setCell (W := W) rfl _ _
      have e01 : (0 + 1 : Nat) = 1 := rfl
      simp only [e01] at hWZ hUZ hSZ hoZ frZ
      generalize hZe : World.setCell w5 ⟨W, 8, none⟩ (.slice a7 1 c7) = Z at hWZ hUZ hSZ hoZ frZ ⊢
      have y0 := cell_of (j := 0) hUZ rfl
      have y1 := cell_of (j := 1) hUZ rfl
      clear t8 t85 f85 f0' f1' u0 u1 f0 f1 c2 c9 hS1 hS2 hW5 hgb ho hg hat hn hZe
      go_wp2
      go_quiet (fail)
      go_wp2_with fail
      have fr3 : Fr (· = W) w (Z.drewN nq) := frZ.drewN _
      have hoZ3 : (Z.drewN nq).ownsRow w.heap.size 39 2 (.slice a7 1 c7) 1 [.int .u64 up, .int .u64 p] := own_fr hoZ ((Fr.refl (fun _ => False) Z).drewN _) (fun _ _ => id)
      refine (HA.out (Z.drewN nq) (.slice a7 1 c7) fr3 hWZ (.inr ⟨HSH.out, hoZ3⟩)).mono ?_
      rintro e w6 ⟨rfl, hR⟩
      go_wp2
      refine bodyPost_end (results_none rfl _ _ _) rfl ?_
      exact ⟨rfl, Z.drewN nq, .slice a7 1 c7, fr3, hWZ, .inr ⟨HSH.out, hoZ3⟩, hR⟩
end Go.Proofs.Ybulkcfri
