import Derived.Test.YbulkcfriSteps
namespace Go.Proofs.Ybulkcfri
open Go.ChangeShapes Go.WideShapes Go.ChangeAt Go.RowKit Go.MuLone
set_option maxHeartbeats 1000000 in
theorem send_held (B M r n : Nat) (v vq : Value) (ms : List (ByteArray × ByteArray)) (h : Nat) (f : Value → Option Value) (a b : ByteArray) (ha : a.size ≤ maxLen) (hb : b.size ≤ maxLen) (w : World) (hB : B ≤ M) (hM : w.heap[M]? = some (.cells (tCells 0 v h (.map (some r))) 96 (0, 0))) (hMap : MapIs Yba.prog 102 w r f n) (hf : f (.agg #[.string a, .string b]) = some vq) (hown : w.ownsRow B 49 13 vq ms.length (rowOf ms)) (hlen : ms.length < 1000000) :
    Calls Yba.prog 14 #[.pointer (some ⟨M, 0, none⟩), .agg (msgOf a b).toArray] w fun e w' => e = .returned (.tuple #[]) ∧ ∃ vq' g, w'.heap[M]? = some (.cells (tCells 0 v h (.map (some r))) 96 (0, 0)) ∧ w'.ownsRow B 49 13 vq' (ms.length + 1) (rowOf (ms ++ [(a, b)])) ∧ MapIs Yba.prog 102 w' r g n ∧ g (.agg #[.string a, .string b]) = some vq' ∧ (∀ x, x ≠ .agg #[.string a, .string b] → g x = f x) ∧ Fr (fun k => k = M ∨ k = r ∨ vq.ownBlock = some k) w w' ∧ (vq'.ownBlock = vq.ownBlock ∨ ∃ g, vq'.ownBlock = some g ∧ w.heap.size ≤ g) := by
  obtain ⟨i9, hi9, hz90, hz91, hz92⟩ := info_parts zero49
  have lM := lt_of_some hM
  have c2 : w.cell? ⟨M, 2, none⟩ = some (.int .i32 0) := cell_of hM rfl
  have c7 : w.cell? ⟨M, 7, none⟩ = some (.map (some r)) := cell_of hM rfl
  have hfz : ∀ q, w.frozen? ⟨M, q, none⟩ = false := fun q => free_of hM
  obtain ⟨l, hkey⟩ := key102 ha hb
  have hrM : r ≠ M := fun e => by
    obtain ⟨es, ck, hh, _⟩ := hMap
    rw [e, hM] at hh; cases hh
  have hlk : ∀ o1 o2 n, (Instr.lookup 94 (.map (some r)) (.agg #[.string a, .string b]) true).run Yba.prog ((((w.setCell ⟨M, 2, none⟩ (.int .i32 1)).alloc o1).alloc o2).drewN n) = .ok (.tuple #[vq, .bool true]) ((((w.setCell ⟨M, 2, none⟩ (.int .i32 1)).alloc o1).alloc o2).drewN n) := fun o1 o2 n => by
    have q := (looks_map hMap ha hb ((((w.setCell ⟨M, 2, none⟩ (.int .i32 1)).alloc o1).alloc o2).drewN n) (fun r' hr' => by
      have fr : Fr (· = M) w ((((w.setCell ⟨M, 2, none⟩ (.int .i32 1)).alloc o1).alloc o2).drewN n) := ((((Fr.refl (· = M) w).setCell (W := M) rfl _ _).alloc _).alloc _).drewN n
      have e : r = r' := by simpa using hr'
      rw [← e]
      exact fr.block r hMap.lt hrM)).1
    rw [hf] at q
    exact q
  unfold msgOf
  go_enter_defers Yba.func14, Yba.ntmps14
  go_wp2_with fail
  refine (lock_free muLib ⟨M, 2, none⟩ _ (cell_alloc_old c2) (free_of (heap_alloc_old hM))).mono ?_
  rintro e w' ⟨rfl, rfl⟩
  go_wp2
  go_quiet (fail)
  go_wp2
  generalize hW : World.drewN _ _ = W
  have hMW : W.heap[M]? = some (.cells (tCells 1 v h (.map (some r))) 96 (0, 0)) := by
    rw [← hW]
    show (World.alloc (World.alloc _ _) _).heap[M]? = _
    exact heap_alloc_old (heap_alloc_old (heap_setCell_same hM))
  have hNW : W.heap[w.heap.size]? = some (.cells #[.int .i64 0, .string a, .string b, .int .u64 0, .int .u64 0, .int .u64 0, .int .u64 0, .int .u64 0, .string ⟨#[]⟩, .slice none 0 0, .slice none 0 0, .bool false, .bool false] 49 (0, 0)) := by
    rw [← hW]
    show (World.alloc (World.alloc (World.setCell w _ _) _) _).heap[w.heap.size]? = _
    rw [heap_alloc, if_neg (by rw [size_alloc, size_setCell]; omega), heap_alloc, if_pos (by rw [size_setCell])]
  have hKW : W.heap[w.heap.size + 1]? = some (.cells #[.string a, .string b] 102 (0, 0)) := by
    rw [← hW]
    show (World.alloc (World.alloc (World.setCell w _ _) _) _).heap[w.heap.size + 1]? = _
    rw [heap_alloc, if_pos (by rw [size_alloc, size_setCell])]
  have frW : Fr (· = M) w W := by rw [← hW]; exact ((((Fr.refl (· = M) w).setCell (W := M) rfl _ _).alloc _).alloc _).drewN _
  have ownW : W.ownsRow B 49 13 vq ms.length (rowOf ms) := own_fr hown frW (fun g hg => by
    obtain ⟨cu, hh⟩ := own_tag hown hg
    exact tag_ne hh hM (by decide))
  have mapW : MapIs Yba.prog 102 W r f n := hMap.of_block (frW.block _ hMap.lt hrM)
  clear hW hlk c2 c7 hfz
  have hsz := frW.size
  generalize hNe : w.heap.size = N at *
  obtain ⟨a5, c5, rfl⟩ := own_slice hown
  have m0 := cell_of (j := 0) hNW rfl
  have m1 := cell_of (j := 1) hNW rfl
  have m2 := cell_of (j := 2) hNW rfl
  have m3 := cell_of (j := 3) hNW rfl
  have m4 := cell_of (j := 4) hNW rfl
  have m5 := cell_of (j := 5) hNW rfl
  have m6 := cell_of (j := 6) hNW rfl
  have m7 := cell_of (j := 7) hNW rfl
  have m8 := cell_of (j := 8) hNW rfl
  have m9 := cell_of (j := 9) hNW rfl
  have m10 := cell_of (j := 10) hNW rfl
  have m11 := cell_of (j := 11) hNW rfl
  have m12 := cell_of (j := 12) hNW rfl
  have k0 := cell_of (j := 0) hKW rfl
  have k1 := cell_of (j := 1) hKW rfl
  have d7 : W.cell? ⟨M, 7, none⟩ = some (.map (some r)) := cell_of hMW rfl
  have hl1 : ms.length + 1 ≤ maxLen := by unfold maxLen; omega
  have hl2 : (ms.length + 1) * 152 ≤ 140737488355328 := by omega
  have lMW := lt_of_some hMW
  have lNW := lt_of_some hNW
  have lKW := lt_of_some hKW
  have hBW : B ≤ W.heap.size := by omega
  have hMne : some M ≠ Value.ownBlock (.slice a5 ms.length c5) := fun e => by
    obtain ⟨cu, hh⟩ := own_tag ownW e.symm
    exact tag_ne hh hMW (by decide) rfl
  have hrne : some r ≠ Value.ownBlock (.slice a5 ms.length c5) := fun e => by
    obtain ⟨cu, hh⟩ := own_tag ownW e.symm
    obtain ⟨es, ck, hh2, _⟩ := mapW
    rw [hh2] at hh; cases hh
  have hKne : some (N + 1) ≠ Value.ownBlock (.slice a5 ms.length c5) := fun e => by
    obtain ⟨cu, hh⟩ := own_tag ownW e.symm
    exact tag_ne hh hKW (by decide) rfl
  refine wp_region_noPanic ?_
  go_region_law (refine step_append_own rfl _ _ 33 rfl B 49 i9 _ 13 152 Yba.underlying33 hi9 hz90 hz91 hz92 rfl (by decide) (.slice a5 ms.length c5) ms.length (rowOf ms) rfl (own_fr ownW (((Fr.refl (fun _ => False) W).alloc _).drew) (fun _ _ => id)) ⟨W.heap.size, 0, none⟩ 1 1 (msgOf a b) rfl rfl (newsAt (show (World.alloc W _).heap[W.heap.size]? = _ from by rw [heap_alloc, if_pos rfl]; rfl)) (msg_one a b) hl1 hl2 (Nat.le_trans hBW (Nat.le_of_lt (by show W.heap.size < (World.alloc W _).heap.size; rw [size_alloc]; omega))) ?_; intro v' w1 ho hg hn hat; have hM1 : w1.heap[M]? = some (.cells (tCells 1 v h (.map (some r))) 96 (0, 0)) := (hg.block M (Nat.lt_of_lt_of_le lMW (by show W.heap.size ≤ (World.alloc W _).heap.size; rw [size_alloc]; omega)) hMne).trans (heap_alloc_old hMW); have map1 : MapIs Yba.prog 102 w1 r f n := (mapW.alloc _).drew.grown hg hrne; obtain ⟨w2, g, hup, hmap2, hg2, hgx, hgr2, hs2⟩ := map1.update law102 Yba.underlying94 hkey v'; obtain ⟨a6, c6, hv6⟩ := own_slice ho; subst hv6; have hK1 : w1.heap[N + 1]? = some (.cells #[.string a, .string b] 102 (0, 0)) := (hg.block (N + 1) (Nat.lt_of_lt_of_le lKW (by show W.heap.size ≤ (World.alloc W _).heap.size; rw [size_alloc]; omega)) hKne).trans (heap_alloc_old hKW); have k0' := cell_of (j := 0) hK1 rfl; have k1' := cell_of (j := 1) hK1 rfl; have d7' : w1.cell? ⟨M, 7, none⟩ = some (.map (some r)) := cell_of hM1 rfl)
  all_goals
    refine NoPanic.normal ?_
    have hM2 : w2.heap[M]? = some (.cells (tCells 1 v h (.map (some r))) 96 (0, 0)) := (hgr2.block M (lt_of_some hM1) (fun e => hrM (Option.some.inj e).symm)).trans hM1
    have ho2 : w2.ownsRow B 49 13 (.slice a6 (ms.length + 1) c6) (ms.length + 1) (rowOf ms ++ msgOf a b) := ho.kept hgr2 (.inr (fun e => by
      obtain ⟨cu, hh⟩ := own_tag ho e
      obtain ⟨es, ck, hh2, _⟩ := map1
      rw [hh2] at hh; cases hh))
    go_wp2
    refine leaves_cons (f := 22) (args := #[.pointer (some ⟨M, 2, none⟩)]) (by simp) (by simp [go_sem]) ?_
    refine (unlock_deferred muLib ⟨M, 2, none⟩ .returning _ (cell_of hM2 rfl) (free_of hM2)).mono ?_
    rintro e u' w'' ⟨rfl, rfl, rfl⟩
    refine ⟨_, results_none rfl _ _ _, rfl, _, g, by rw [heap_setCell_same hM2]; rfl, ?_, ?_, hg2, hgx, ?_, ?_⟩
    · rw [show rowOf (ms ++ [(a, b)]) = rowOf ms ++ msgOf a b by simp [rowOf]]
      refine own_fr ho2 ((Fr.refl (· = M) w2).setCell (W := M) rfl _ _) (fun g hgg => ?_)
      obtain ⟨cu, hh⟩ := own_tag ho2 hgg
      exact tag_ne hh hM2 (by decide)
    · have q := hmap2.setCell ⟨M, 2, none⟩ (.int .i32 0)
      rw [hf] at q
      exact q
    · have f1 : Fr (fun k => k = M ∨ k = r ∨ (Value.slice a5 ms.length c5).ownBlock = some k) w W := frW.mono (fun k _ e => .inl e)
      have f2 : Fr (fun k => k = M ∨ k = r ∨ (Value.slice a5 ms.length c5).ownBlock = some k) w w1 := (f1.alloc _).drew.trans (Fr.of_grown hg (fun k e => .inr (.inr e)))
      have f3 := f2.trans (Fr.of_grown hgr2 (fun k e => .inr (.inl (Option.some.inj e).symm)))
      exact f3.setCell (W := M) (.inl rfl) _ _
    · rcases hat with q | q
      · exact .inl q
      · refine .inr ⟨_, q, ?_⟩
        show w.heap.size ≤ (World.alloc W _).heap.size
        rw [size_alloc, hNe]; omega
end Go.Proofs.Ybulkcfri
