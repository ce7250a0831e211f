import Derived.Test.YbulkcfriP6Steps
namespace Go.Proofs.Ybulkcfri
open Go.ChangeShapes Go.WideShapes Go.ChangeAt Go.RowKit Go.MuLone
def nineNil : Array Value := #[.slice none 0 0, .slice none 0 0, .slice none 0 0, .slice none 0 0, .slice none 0 0, .slice none 0 0, .slice none 0 0, .slice none 0 0, .slice none 0 0]
def nineNo : Array Value := #[.bool false, .bool false, .bool false, .bool false, .bool false, .bool false, .bool false, .bool false, .bool false]
theorem nineNil_get : ∀ j, j < 9 → nineNil[j]? = some (.slice none 0 0) := by
  intro j hj
  rcases (by omega : j = 0 ∨ j = 1 ∨ j = 2 ∨ j = 3 ∨ j = 4 ∨ j = 5 ∨ j = 6 ∨ j = 7 ∨ j = 8) with rfl | rfl | rfl | rfl | rfl | rfl | rfl | rfl | rfl <;> rfl
theorem nineNo_get : ∀ j, j < 9 → nineNo[j]? = some (.bool false) := by
  intro j hj
  rcases (by omega : j = 0 ∨ j = 1 ∨ j = 2 ∨ j = 3 ∨ j = 4 ∨ j = 5 ∨ j = 6 ∨ j = 7 ∨ j = 8) with rfl | rfl | rfl | rfl | rfl | rfl | rfl | rfl | rfl <;> rfl
theorem P6.new (w : World) : let W := ((w.alloc (.cells (tCells 0 (.slice none 0 0) 0 (.map none)) 96)).alloc (.cells nineNil 97)).alloc (.cells nineNo 98); TS w.heap.size w.heap.size 0 W [] (fun _ => none) 0 ∧ P6 w.heap.size (w.heap.size + 1) (w.heap.size + 2) [] (fun _ => none) (.slice none 0 0) (fun _ => .slice none 0 0) w W := by
  intro W
  have s1 : (w.alloc (.cells (tCells 0 (.slice none 0 0) 0 (.map none)) 96)).heap.size = w.heap.size + 1 := size_alloc _ _
  have s2 : ((w.alloc (.cells (tCells 0 (.slice none 0 0) 0 (.map none)) 96)).alloc (.cells nineNil 97)).heap.size = w.heap.size + 2 := by rw [size_alloc, s1]
  have hb : Below w.heap.size w W := ((below_alloc _ _).trans ((below_alloc _ _).mono (by rw [s1]; omega))).trans ((below_alloc _ _).mono (by rw [s2]; omega))
  constructor
  · refine TS.new ?_ (Nat.le_refl _)
    show (World.alloc (World.alloc (World.alloc w _) _) _).heap[w.heap.size]? = _
    rw [heap_alloc, if_neg (by rw [s2]; omega), heap_alloc, if_neg (by rw [s1]; omega), heap_alloc, if_pos rfl]
  · refine ⟨cut_own (World.ownsRow_nil _ _ _ _), ⟨nineNil, ?_, rfl, nineNil_get⟩, ⟨nineNo, ?_, rfl, nineNo_get⟩, fun j _ => World.ownsRow_nil _ _ _ _, (fun j g _ hg => by cases hg), (fun j j' g _ _ _ hg => by cases hg), hb, by omega, by omega⟩
    · show (World.alloc (World.alloc (World.alloc w _) _) _).heap[w.heap.size + 1]? = _
      rw [heap_alloc, if_neg (by rw [s2]; omega), heap_alloc, if_pos s1.symm]
    · show (World.alloc (World.alloc (World.alloc w _) _) _).heap[w.heap.size + 2]? = _
      rw [heap_alloc, if_pos s2.symm]
theorem flag_cell {B A5 A6 : Nat} {FL : List Pr} {H : Nat → Option (List Pr)} {vf : Value} {U : Nat → Value} {w wr : World} (h : P6 B A5 A6 FL H vf U w wr) {k : Nat} (hk : k < 9) {o : Bool} (ho : (H k).isSome = o) : wr.cell? ⟨A6, k, none⟩ = some (.bool o) := by
  obtain ⟨ds, hds, _, hd⟩ := h.flags
  rw [← ho]; exact cell_of hds (hd k hk)
theorem row_cellAt {B A5 A6 : Nat} {FL : List Pr} {H : Nat → Option (List Pr)} {vf : Value} {U : Nat → Value} {w wr : World} (h : P6 B A5 A6 FL H vf U w wr) {k : Nat} (hk : k < 9) : wr.cell? ⟨A5, k, none⟩ = some (U k) := by
  obtain ⟨cs, hcs, _, hc⟩ := h.arr
  exact cell_of hcs (hc k hk)
theorem TS.fl_le {B M N : Nat} {w : World} {fl : List Pr} {H : Nat → Option (List Pr)} {n : Nat} (h : TS B M N w fl H n) : fl.length ≤ N ∧ ∀ k, k < 9 → ((H k).getD []).length ≤ N := by
  obtain ⟨v, h0, hm, ms, V, f, ht, hd⟩ := h
  have := ht.bound
  refine ⟨by rw [← hd, List.length_drop]; omega, fun k hk => ?_⟩
  have := le_tot H hk
  omega
set_option maxRecDepth 100000 in
set_option maxHeartbeats 8000000 in
theorem law6_walk (ad : Option Addr) (L c : Nat) (d1 d2 d3 : Nat → Nat) (w : World) (hops : OpsAt w ad L d1 d2 d3) (hL : L ≤ 1024) :
    Calls Yba.prog 6 #[.slice ad L c] w fun e w' => e = .returned (.bool true) ∧ Below w.heap.size w w' := by
  have hLi : ¬ ((L : Int) > 1024) := by omega
  have hnew := P6.new w
  simp only at hnew
  obtain ⟨ht0, hp0⟩ := hnew
  have HT0 : Hid (TS w.heap.size w.heap.size 0 (((w.alloc (.cells (tCells 0 (.slice none 0 0) 0 (.map none)) 96)).alloc (.cells nineNil 97)).alloc (.cells nineNo 98)) [] (fun _ => none) 0) := ht0
  have HP0 : Hid (P6 w.heap.size (w.heap.size + 1) (w.heap.size + 2) [] (fun _ => none) (.slice none 0 0) (fun _ => .slice none 0 0) w (((w.alloc (.cells (tCells 0 (.slice none 0 0) 0 (.map none)) 96)).alloc (.cells nineNil 97)).alloc (.cells nineNo 98))) := hp0
  clear ht0 hp0
  go_enter Yba.func6, Yba.ntmps6
  go_wp2
  change Code.wp _ _ _ _ (((w.alloc (.cells (tCells 0 (.slice none 0 0) 0 (.map none)) 96)).alloc (.cells nineNil 97)).alloc (.cells nineNo 98))
  generalize (((w.alloc (.cells (tCells 0 (.slice none 0 0) 0 (.map none)) 96)).alloc (.cells nineNil 97)).alloc (.cells nineNo 98)) = w0 at *
  obtain ⟨B, hBe⟩ : ∃ B, w.heap.size = B := ⟨_, rfl⟩
  rw [hBe] at HT0 HP0 ⊢
  obtain ⟨A5, hA5⟩ : ∃ A5, B + 1 = A5 := ⟨_, rfl⟩
  obtain ⟨A6, hA6⟩ : ∃ A6, A5 + 1 = A6 := ⟨_, rfl⟩
  rw [hA5, hA6]
  have HP1 : Hid (P6 B A5 A6 [] (fun _ => none) (.slice none 0 0) (fun _ => .slice none 0 0) w w0) := by
    show P6 _ _ _ _ _ _ _ _ _
    rw [← hA6, ← hA5]; exact HP0.out
  clear HP0
  go_loopg [4, 35] L (fun gk vf p wr => ∃ i : Nat, i ≤ L ∧ p = .int .i64 i ∧ L ≤ gk + i ∧ ∃ FL H n U, TS B B i wr FL H n ∧ P6 B A5 A6 FL H vf U w wr)
  case atStart => exact ⟨0, Nat.zero_le _, rfl, by omega, _, _, _, _, HT0.out, HP1.out⟩
  case round =>
    obtain ⟨i, hile, rfl, hgk, FL, H, n, U, ht, hp⟩ := hrel
    clear HT0 HP1
    by_cases hilt : i < L
    · have hil : (i : Int) < L := by omega
      rcases hops with h0 | ⟨b, off, rfl, hbl, hc⟩
      · omega
      obtain ⟨c1, c2, c3, l1, l2, l3⟩ := hc i hilt
      have c1' := (World.cell?_of_block (a := ⟨b, off + i * 3, none⟩) (hp.bel.block b (hBe ▸ hbl))).trans c1
      have c2' := (World.cell?_of_block (a := ⟨b, off + i * 3 + 1, none⟩) (hp.bel.block b (hBe ▸ hbl))).trans c2
      have c3' := (World.cell?_of_block (a := ⟨b, off + i * 3 + 2, none⟩) (hp.bel.block b (hBe ▸ hbl))).trans c3
      clear c1 c2 c3 hc
      generalize d1 i = x1 at *
      generalize d2 i = x2 at *
      generalize d3 i = x3 at *
      have hk9 := ix_lt x2 x3
      have hkI : (x2 : Int) % 3 * 3 + (x3 : Int) % 3 = (ix x2 x3 : Nat) := by unfold ix; omega
      go_wp2
      go_quiet (refine Calls.quiet_of_same (name_any _ (by assumption) _))
      generalize hWe : World.drewN _ _ = W
      have hbW : Below wr.heap.size wr W := by rw [← hWe]; exact (below_alloc _ _).trans ⟨rfl, rfl, rfl, Nat.le_refl _, fun _ _ => rfl⟩
      have hNW : W.heap[wr.heap.size]? = some (.cells #[.int .u8 x1, .int .u8 x2, .int .u8 x3] 107 (0, 0)) := by
        rw [← hWe]
        show (World.alloc wr _).heap[wr.heap.size]? = _
        rw [heap_alloc, if_pos rfl]
      clear hWe
      replace ht := ht.below hbW
      replace hp := hp.below hbW
      have e1 := cell_of (j := 0) hNW rfl
      have e2 := cell_of (j := 1) hNW rfl
      have e3 := cell_of (j := 2) hNW rfl
      clear c1' c2' c3' hbW
      obtain ⟨W1, hW1⟩ : ∃ W1, W.alloc (.cells #[.string (nm x2), .string (nm x3)] 108) = W1 := ⟨_, rfl⟩
      have hb1 : Below W.heap.size W W1 := by rw [← hW1]; exact below_alloc _ _
      have hP1 : W1.heap[W.heap.size]? = some (.cells #[.string (nm x2), .string (nm x3)] 108 (0, 0)) := by rw [← hW1, heap_alloc, if_pos rfl]
      replace ht := ht.below hb1
      replace hp := hp.below hb1
      have g1 : W1.cell? ⟨wr.heap.size, 0, none⟩ = some (.int .u8 x1) := cell_of ((hb1.block _ (lt_of_some hNW)).trans hNW) rfl
      have fl1 : W1.cell? ⟨A6, ix x2 x3, none⟩ = some (.bool (H (ix x2 x3)).isSome) := flag_cell hp hk9 rfl
      obtain ⟨i8, hi8, hz80, hz81, hz82⟩ := info_parts zero108
      have hk9i : ((ix x2 x3 : Nat) : Int) < 9 := by omega
      clear hb1
      by_cases z0 : x1 % 5 = 0
      · have b0 : ((x1 : Int) % 5 == 0) = true := by simp; omega
        clear z0 fl1
        cases hkx : H (ix x2 x3) with
        | none =>
          go_wp2_with fail
          refine (send_ts_free x2 x3 ht (by omega) hkx).mono ?_
          rintro e W2 ⟨rfl, ht2, hk2⟩
          have hp2 := hp.kept hk2
          have hP2 := hk2.blk hP1 (by decide) (by decide)
          have q0 := cell_of (j := 0) hP2 rfl
          have q1 := cell_of (j := 1) hP2 rfl
          have hl2 := hp2.lt
          have hFn := TS.fl_le ht
          have fl3 : W2.cell? ⟨A6, ix x2 x3, none⟩ = some (.bool false) := flag_cell hp2 hk9 (by rw [hkx]; rfl)
          go_wp2_with (at_builtin; refine wpList_append_cut _ rfl _ _ 84 rfl B 108 i8 _ 2 32 Yba.underlying84 hi8 hz80 hz81 hz82 rfl (by decide) u4 FL.length (pairRow FL) rfl (cut_fr hp2.q ((Fr.refl (fun _ => False) W2).alloc _) (fun _ _ => id)) ⟨W2.heap.size, 0, none⟩ 1 1 (pairOf (nm x2) (nm x3)) rfl rfl (newsAt (show (World.alloc W2 _).heap[W2.heap.size]? = _ from by rw [heap_alloc, if_pos rfl] <;> rfl)) (pair_one _ _) (by unfold maxLen; omega) (by omega) (by rw [size_alloc]; omega) ?_; intro vf' W3 hq3 hg3 hat3)
          go_roundg (gk - 1)
          case measure => omega
          case rel =>
            have fr3 : Fr (fun j => u4.ownBlock = some j) W2 W3 := ((Fr.refl _ W2).alloc _).trans (Fr.of_grown hg3 (fun j e => e))
            refine ⟨i + 1, hilt, by go_num, by omega, FL ++ [(nm x2, nm x3)], H, n, U, ht2.keep fr3 (fun j hj => hp2.notFoot j (.inr (.inr (.inr hj)))), hp2.newFl fr3 ?_ (fun j g hj hg => ?_)⟩
            · rw [pairRow_append', List.length_append]; exact hq3
            · rcases hat3 with e | ⟨d, e, hd⟩
              · rw [e]; exact hp2.ap j g hj hg
              · rw [e]; intro e2; have := own_lt (hp2.rows j hj) hg; have := Option.some.inj e2; rw [size_alloc] at hd; omega
        | some q =>
          go_wp2_with fail
          refine (send_ts_held x2 x3 q ht (by omega) hkx).mono ?_
          rintro e W2 ⟨rfl, ht2, hk2⟩
          have hp2 := hp.kept hk2
          have hP2 := hk2.blk hP1 (by decide) (by decide)
          have q0 := cell_of (j := 0) hP2 rfl
          have q1 := cell_of (j := 1) hP2 rfl
          have hl2 := hp2.lt
          have hFn := TS.fl_le ht
          have fl3 : W2.cell? ⟨A6, ix x2 x3, none⟩ = some (.bool true) := flag_cell hp2 hk9 (by rw [hkx]; rfl)
          have hrow := hp2.rows _ hk9
          rw [hkx] at hrow
          obtain ⟨au, cu, hue⟩ := own_slice hrow
          have r5 : W2.cell? ⟨A5, ix x2 x3, none⟩ = some (.slice au q.length cu) := by rw [row_cellAt hp2 hk9, hue]; rfl
          have hrow2 : W2.ownsRow B 108 2 (.slice au q.length cu) q.length (pairRow q) := by rw [hue] at hrow; exact hrow
          have hUb : (U (ix x2 x3)).ownBlock = (Value.slice au q.length cu).ownBlock := by rw [hue]; rfl
          obtain ⟨cs, hcs, hcz, hc⟩ := hp2.arr
          have hql : q.length ≤ i := by have := (TS.fl_le ht).2 _ hk9; rw [hkx] at this; exact this
          have hne5 : some A5 ≠ Value.ownBlock (.slice au q.length cu) := fun e => by
            obtain ⟨cu9, hh⟩ := own_tag hrow2 e.symm
            exact tag_ne hh hcs (by decide) rfl
          clear hrow hFn
          go_wp2
          go_region_law (refine step_append_own rfl _ _ 84 rfl B 108 i8 _ 2 32 Yba.underlying84 hi8 hz80 hz81 hz82 rfl (by decide) (.slice au q.length cu) q.length (pairRow q) rfl (own_fr hrow2 (((Fr.refl (fun _ => False) W2).alloc _).drew) (fun _ _ => id)) ⟨W2.heap.size, 0, none⟩ 1 1 (pairOf (nm x2) (nm x3)) rfl rfl (newsAt (show (World.alloc W2 _).heap[W2.heap.size]? = _ from by rw [heap_alloc, if_pos rfl] <;> rfl)) (pair_one _ _) (by unfold maxLen; omega) (by omega) (Nat.le_trans hl2.2.2 (Nat.le_of_lt (by show W2.heap.size < (World.alloc W2 _).heap.size; rw [size_alloc]; omega))) ?_; intro v' w1 ho hg hn hat; have h51 : w1.heap[A5]? = some (.cells cs 97 (0, 0)) := (hg.block A5 (Nat.lt_of_lt_of_le hl2.1 (by show W2.heap.size ≤ (World.alloc W2 _).heap.size; rw [size_alloc]; omega)) hne5).trans (heap_alloc_old hcs); have r51 : w1.cell? ⟨A5, ix x2 x3, none⟩ = some (.slice au q.length cu) := cell_of h51 ((hc _ hk9).trans (by rw [hue]; rfl)); have f51 : w1.frozen? ⟨A5, ix x2 x3, none⟩ = false := free_of h51; obtain ⟨av, cv, hve⟩ := own_slice ho; subst hve)
          all_goals
            rw [← hUb] at hg hat
            obtain ⟨hp3, hts3⟩ := hp2.sendHeld hk9 hkx ho hg hat
            clear r51 f51 h51 r5 hrow2 ho hg hat hn hne5 hcs hc fl3 q0 q1
            go_wp2
            go_roundg (gk - 1)
            case measure => omega
            case rel => exact ⟨i + 1, hilt, by go_num, by omega, _, _, _, _, hts3 _ _ _ _ _ _ ht2, hp3⟩

      · have b0 : ((x1 : Int) % 5 == 0) = false := by simp; omega
        by_cases z1 : x1 % 5 = 1
        · have b1 : ((x1 : Int) % 5 == 1) = true := by simp; omega
          clear z0 z1 fl1
          cases hkx : H (ix x2 x3) with
          | none =>
            go_wp2_with fail
            refine (send_ts_free x2 x3 ht (by omega) hkx).mono ?_
            rintro e W2 ⟨rfl, ht2, hk2⟩
            have hp2 := hp.kept hk2
            have hP2 := hk2.blk hP1 (by decide) (by decide)
            have q0 := cell_of (j := 0) hP2 rfl
            have q1 := cell_of (j := 1) hP2 rfl
            have hl2 := hp2.lt
            have hFn := TS.fl_le ht
            have fl3 : W2.cell? ⟨A6, ix x2 x3, none⟩ = some (.bool false) := flag_cell hp2 hk9 (by rw [hkx]; rfl)
            go_wp2_with (at_builtin; refine wpList_append_cut _ rfl _ _ 84 rfl B 108 i8 _ 2 32 Yba.underlying84 hi8 hz80 hz81 hz82 rfl (by decide) u4 FL.length (pairRow FL) rfl (cut_fr hp2.q ((Fr.refl (fun _ => False) W2).alloc _) (fun _ _ => id)) ⟨W2.heap.size, 0, none⟩ 1 1 (pairOf (nm x2) (nm x3)) rfl rfl (newsAt (show (World.alloc W2 _).heap[W2.heap.size]? = _ from by rw [heap_alloc, if_pos rfl] <;> rfl)) (pair_one _ _) (by unfold maxLen; omega) (by omega) (by rw [size_alloc]; omega) ?_; intro vf' W3 hq3 hg3 hat3)
            go_roundg (gk - 1)
            case measure => omega
            case rel =>
              have fr3 : Fr (fun j => u4.ownBlock = some j) W2 W3 := ((Fr.refl _ W2).alloc _).trans (Fr.of_grown hg3 (fun j e => e))
              refine ⟨i + 1, hilt, by go_num, by omega, FL ++ [(nm x2, nm x3)], H, n, U, ht2.keep fr3 (fun j hj => hp2.notFoot j (.inr (.inr (.inr hj)))), hp2.newFl fr3 ?_ (fun j g hj hg => ?_)⟩
              · rw [pairRow_append', List.length_append]; exact hq3
              · rcases hat3 with e | ⟨d, e, hd⟩
                · rw [e]; exact hp2.ap j g hj hg
                · rw [e]; intro e2; have := own_lt (hp2.rows j hj) hg; have := Option.some.inj e2; rw [size_alloc] at hd; omega
          | some q =>
            go_wp2_with fail
            refine (send_ts_held x2 x3 q ht (by omega) hkx).mono ?_
            rintro e W2 ⟨rfl, ht2, hk2⟩
            have hp2 := hp.kept hk2
            have hP2 := hk2.blk hP1 (by decide) (by decide)
            have q0 := cell_of (j := 0) hP2 rfl
            have q1 := cell_of (j := 1) hP2 rfl
            have hl2 := hp2.lt
            have hFn := TS.fl_le ht
            have fl3 : W2.cell? ⟨A6, ix x2 x3, none⟩ = some (.bool true) := flag_cell hp2 hk9 (by rw [hkx]; rfl)
            have hrow := hp2.rows _ hk9
            rw [hkx] at hrow
            obtain ⟨au, cu, hue⟩ := own_slice hrow
            have r5 : W2.cell? ⟨A5, ix x2 x3, none⟩ = some (.slice au q.length cu) := by rw [row_cellAt hp2 hk9, hue]; rfl
            have hrow2 : W2.ownsRow B 108 2 (.slice au q.length cu) q.length (pairRow q) := by rw [hue] at hrow; exact hrow
            have hUb : (U (ix x2 x3)).ownBlock = (Value.slice au q.length cu).ownBlock := by rw [hue]; rfl
            obtain ⟨cs, hcs, hcz, hc⟩ := hp2.arr
            have hql : q.length ≤ i := by have := (TS.fl_le ht).2 _ hk9; rw [hkx] at this; exact this
            have hne5 : some A5 ≠ Value.ownBlock (.slice au q.length cu) := fun e => by
              obtain ⟨cu9, hh⟩ := own_tag hrow2 e.symm
              exact tag_ne hh hcs (by decide) rfl
            clear hrow hFn
            go_wp2
            go_region_law (refine step_append_own rfl _ _ 84 rfl B 108 i8 _ 2 32 Yba.underlying84 hi8 hz80 hz81 hz82 rfl (by decide) (.slice au q.length cu) q.length (pairRow q) rfl (own_fr hrow2 (((Fr.refl (fun _ => False) W2).alloc _).drew) (fun _ _ => id)) ⟨W2.heap.size, 0, none⟩ 1 1 (pairOf (nm x2) (nm x3)) rfl rfl (newsAt (show (World.alloc W2 _).heap[W2.heap.size]? = _ from by rw [heap_alloc, if_pos rfl] <;> rfl)) (pair_one _ _) (by unfold maxLen; omega) (by omega) (Nat.le_trans hl2.2.2 (Nat.le_of_lt (by show W2.heap.size < (World.alloc W2 _).heap.size; rw [size_alloc]; omega))) ?_; intro v' w1 ho hg hn hat; have h51 : w1.heap[A5]? = some (.cells cs 97 (0, 0)) := (hg.block A5 (Nat.lt_of_lt_of_le hl2.1 (by show W2.heap.size ≤ (World.alloc W2 _).heap.size; rw [size_alloc]; omega)) hne5).trans (heap_alloc_old hcs); have r51 : w1.cell? ⟨A5, ix x2 x3, none⟩ = some (.slice au q.length cu) := cell_of h51 ((hc _ hk9).trans (by rw [hue]; rfl)); have f51 : w1.frozen? ⟨A5, ix x2 x3, none⟩ = false := free_of h51; obtain ⟨av, cv, hve⟩ := own_slice ho; subst hve)
            all_goals
              rw [← hUb] at hg hat
              obtain ⟨hp3, hts3⟩ := hp2.sendHeld hk9 hkx ho hg hat
              clear r51 f51 h51 r5 hrow2 ho hg hat hn hne5 hcs hc fl3 q0 q1
              go_wp2
              go_roundg (gk - 1)
              case measure => omega
              case rel => exact ⟨i + 1, hilt, by go_num, by omega, _, _, _, _, hts3 _ _ _ _ _ _ ht2, hp3⟩

        · have b1 : ((x1 : Int) % 5 == 1) = false := by simp; omega
          by_cases z2 : x1 % 5 = 2
          · have b2 : ((x1 : Int) % 5 == 2) = true := by simp; omega
            clear z0 z1 z2 fl1
            cases hkx : H (ix x2 x3) with
            | none =>
              go_wp2_with fail
              refine (hold_ts_new x2 x3 ht (by omega) hkx).mono ?_
              rintro e W2 ⟨rfl, ht2, hk2⟩
              have hp2 := hp.kept hk2
              have hP2 := hk2.blk hP1 (by decide) (by decide)
              have q0 := cell_of (j := 0) hP2 rfl
              have q1 := cell_of (j := 1) hP2 rfl
              have hl2 := hp2.lt
              have hFn := TS.fl_le ht
              have fl3 : W2.cell? ⟨A6, ix x2 x3, none⟩ = some (.bool false) := flag_cell hp2 hk9 (by rw [hkx]; rfl)
              have fz3 : ∀ q, W2.frozen? ⟨A6, q, none⟩ = false := fun q => by obtain ⟨ds, hds, _⟩ := hp2.flags; exact free_of hds
              obtain ⟨af, cf, hfe⟩ := cut_slice hp2.q
              subst hfe
              go_wp2
              obtain ⟨gO, hgO⟩ : ∃ gO, gO = gk := ⟨_, rfl⟩
              have hFLq := (cut_pair hp2.q).2
              have lP2 := lt_of_some hP2
              go_loopg [13, 14, 118] FL.length (fun gk2 q r p wr2 => ∃ j : Nat, j ≤ FL.length ∧ p = .int .i64 j ∧ FL.length ≤ gk2 + j ∧ wr2.ownsRow W2.heap.size 108 2 q ((FL.take j).filter (fun x => eqb x (nm x2, nm x3))).length (pairRow ((FL.take j).filter (fun x => eqb x (nm x2, nm x3)))) ∧ wr2.ownsRow W2.heap.size 108 2 r ((FL.take j).filter (fun x => !eqb x (nm x2, nm x3))).length (pairRow ((FL.take j).filter (fun x => !eqb x (nm x2, nm x3)))) ∧ (∀ k, q.ownBlock = some k → r.ownBlock ≠ some k) ∧ Below W2.heap.size W2 wr2)
              case atStart => exact ⟨0, Nat.zero_le _, rfl, by omega, World.ownsRow_nil _ _ _ _, World.ownsRow_nil _ _ _ _, (fun k e => by cases e), Below.refl _ _⟩
              case round =>
                obtain ⟨j, hjle, rfl, hgk2, hoq, hor, hdis, hb2⟩ := hrel
                by_cases hjlt : j < FL.length
                · have hjl : (j : Int) < FL.length := by omega
                  obtain ⟨x, y, he⟩ : ∃ x y, FL[j]? = some (x, y) := ⟨_, _, List.getElem?_eq_getElem hjlt⟩
                  obtain ⟨g, of, cf', hve, hgl, hcf, hcells⟩ := hFLq (fun e => by rw [e] at hjlt; simp at hjlt)
                  obtain ⟨rfl, rfl⟩ : af = some ⟨g, of, none⟩ ∧ cf = cf' := by injection hve with q1 _ q3; exact ⟨q1, q3⟩
                  obtain ⟨k0, k1⟩ := hcells j x y he
                  have k0' := (World.cell?_of_block (a := ⟨g, of + j * 2, none⟩) (hb2.block g hgl)).trans k0
                  have k1' := (World.cell?_of_block (a := ⟨g, of + j * 2 + 1, none⟩) (hb2.block g hgl)).trans k1
                  obtain ⟨X1, hX1⟩ : ∃ X1, wr.alloc (.cells #[.string x, .string y] 108) = X1 := ⟨_, rfl⟩
                  have hbX : Below wr.heap.size wr X1 := by rw [← hX1]; exact below_alloc _ _
                  have hbX2 : Below W2.heap.size W2 X1 := hb2.trans (hbX.mono hb2.size)
                  have hNX : X1.heap[wr.heap.size]? = some (.cells #[.string x, .string y] 108 (0, 0)) := by rw [← hX1, heap_alloc, if_pos rfl]
                  have y0 := cell_of (j := 0) hNX rfl
                  have y1 := cell_of (j := 1) hNX rfl
                  have hPX := (hbX2.block _ lP2).trans hP2
                  have y2 := cell_of (j := 0) hPX rfl
                  have y3 := cell_of (j := 1) hPX rfl
                  have hoq2 := own_fr hoq (Fr.of_below hbX (fun _ => False)) (fun _ _ => id)
                  have hor2 := own_fr hor (Fr.of_below hbX (fun _ => False)) (fun _ _ => id)
                  have hq := eql108 x y (nm x2) (nm x3)
                  have hlq : ((FL.take j).filter (fun x => eqb x (nm x2, nm x3))).length ≤ j := Nat.le_trans (List.length_filter_le _ _) (by rw [List.length_take]; omega)
                  have hlr : ((FL.take j).filter (fun x => !eqb x (nm x2, nm x3))).length ≤ j := Nat.le_trans (List.length_filter_le _ _) (by rw [List.length_take]; omega)
                  have hs2 : W2.heap.size ≤ X1.heap.size := hbX2.size
                  obtain ⟨Fq, hFq'⟩ : ∃ Fq, (FL.take j).filter (fun x => eqb x (nm x2, nm x3)) = Fq := ⟨_, rfl⟩
                  obtain ⟨Frr, hFr'⟩ : ∃ Frr, (FL.take j).filter (fun x => !eqb x (nm x2, nm x3)) = Frr := ⟨_, rfl⟩
                  rw [hFq'] at hoq hoq2 hlq
                  rw [hFr'] at hor hor2 hlr
                  have hFq : Hid ((FL.take j).filter (fun x => eqb x (nm x2, nm x3)) = Fq) := hFq'
                  have hFr : Hid ((FL.take j).filter (fun x => !eqb x (nm x2, nm x3)) = Frr) := hFr'
                  clear hFq' hFr' k0 k1 hcells
                  by_cases hqc : (x.toList == (nm x2).toList && y.toList == (nm x3).toList) = true
                  · have hqb := hqc
                    have hqb' : Hid ((x.toList == (nm x2).toList && y.toList == (nm x3).toList) = true) := hqc
                    clear hqc
                    go_wp2_with (at_builtin; refine wpList_append_own_at _ rfl _ _ 84 rfl W2.heap.size 108 i8 _ 2 32 Yba.underlying84 hi8 hz80 hz81 hz82 rfl (by decide) u13 Fq.length (pairRow Fq) rfl (own_fr hoq2 ((Fr.refl (fun _ => False) X1).alloc _) (fun _ _ => id)) ⟨X1.heap.size, 0, none⟩ 1 1 (pairOf x y) rfl rfl (newsAt (show (World.alloc X1 _).heap[X1.heap.size]? = _ from by rw [heap_alloc, if_pos rfl] <;> rfl)) (pair_one x y) (by unfold maxLen; omega) (by omega) (by rw [size_alloc]; omega) ?_; intro v' w3 ho3 hg3 hn3 hat3)
                    have hlt_o : ∀ k, u14.ownBlock = some k → k < X1.heap.size := fun k e => own_lt hor2 e
                    have hooo : w3.ownsRow W2.heap.size 108 2 u14 Frr.length (pairRow Frr) := (own_fr hor2 ((Fr.refl (fun _ => False) X1).alloc _) (fun _ _ => id)).kept hg3 (by
                      by_cases hno : u14.ownBlock = none
                      · exact .inl hno
                      · refine .inr (fun e => ?_)
                        cases hq9 : u13.ownBlock with
                        | none => rw [hq9] at e; exact hno e
                        | some k => rw [hq9] at e; exact hdis k hq9 e)
                    have hB3 : Below W2.heap.size W2 w3 := by
                      have f1 : Fr (fun k => W2.heap.size ≤ k) W2 X1 := ⟨hbX2.os, hbX2.tape, hbX2.output, hbX2.size, fun k hk _ => hbX2.block k hk⟩
                      have f3 : Fr (fun k => W2.heap.size ≤ k) W2 w3 := (f1.alloc _).trans (Fr.of_grown hg3 (fun k e => own_B hoq2 e))
                      exact f3.below (Nat.le_refl _) (fun _ h => h)
                    have ht1 : FL.take (j + 1) = FL.take j ++ [(x, y)] := by rw [List.take_add_one, he]; rfl
                    go_roundg (gk - 1)
                    case measure => omega
                    case rel =>
                      have hEq : eqb (x, y) (nm x2, nm x3) = true := hqb'.out
                      refine ⟨j + 1, hjlt, by go_num, by omega, ?_, ?_, ?_, hB3⟩
                      · rw [ht1, List.filter_append, hFq.out, show [(x, y)].filter (fun z => eqb z (nm x2, nm x3)) = [(x, y)] by simp [hEq]]
                        rw [pairRow_append', List.length_append]
                        exact ho3
                      · rw [ht1, List.filter_append, hFr.out, show [(x, y)].filter (fun z => !eqb z (nm x2, nm x3)) = [] by simp [hEq], List.append_nil]
                        exact hooo
                      · intro k e e2
                        rcases hat3 with q | q
                        · exact hdis k (by rw [← q]; exact e) e2
                        · rw [q] at e; have := hlt_o k e2; have := Option.some.inj e; rw [size_alloc] at this; omega

                  · have hqb : (x.toList == (nm x2).toList && y.toList == (nm x3).toList) = false := by simpa using hqc
                    have hqb' : Hid ((x.toList == (nm x2).toList && y.toList == (nm x3).toList) = false) := hqb
                    clear hqc
                    go_wp2_with (at_builtin; refine wpList_append_own_at _ rfl _ _ 84 rfl W2.heap.size 108 i8 _ 2 32 Yba.underlying84 hi8 hz80 hz81 hz82 rfl (by decide) u14 Frr.length (pairRow Frr) rfl (own_fr hor2 ((Fr.refl (fun _ => False) X1).alloc _) (fun _ _ => id)) ⟨X1.heap.size, 0, none⟩ 1 1 (pairOf x y) rfl rfl (newsAt (show (World.alloc X1 _).heap[X1.heap.size]? = _ from by rw [heap_alloc, if_pos rfl] <;> rfl)) (pair_one x y) (by unfold maxLen; omega) (by omega) (by rw [size_alloc]; omega) ?_; intro v' w3 ho3 hg3 hn3 hat3)
                    have hlt_o : ∀ k, u13.ownBlock = some k → k < X1.heap.size := fun k e => own_lt hoq2 e
                    have hooo : w3.ownsRow W2.heap.size 108 2 u13 Fq.length (pairRow Fq) := (own_fr hoq2 ((Fr.refl (fun _ => False) X1).alloc _) (fun _ _ => id)).kept hg3 (by
                      by_cases hno : u13.ownBlock = none
                      · exact .inl hno
                      · refine .inr (fun e => ?_)
                        cases hq9 : u14.ownBlock with
                        | none => rw [hq9] at e; exact hno e
                        | some k => rw [hq9] at e; exact hdis k e hq9)
                    have hB3 : Below W2.heap.size W2 w3 := by
                      have f1 : Fr (fun k => W2.heap.size ≤ k) W2 X1 := ⟨hbX2.os, hbX2.tape, hbX2.output, hbX2.size, fun k hk _ => hbX2.block k hk⟩
                      have f3 : Fr (fun k => W2.heap.size ≤ k) W2 w3 := (f1.alloc _).trans (Fr.of_grown hg3 (fun k e => own_B hor2 e))
                      exact f3.below (Nat.le_refl _) (fun _ h => h)
                    have ht1 : FL.take (j + 1) = FL.take j ++ [(x, y)] := by rw [List.take_add_one, he]; rfl
                    go_roundg (gk - 1)
                    case measure => omega
                    case rel =>
                      have hEq : eqb (x, y) (nm x2, nm x3) = false := hqb'.out
                      refine ⟨j + 1, hjlt, by go_num, by omega, ?_, ?_, ?_, hB3⟩
                      · rw [ht1, List.filter_append, hFq.out, show [(x, y)].filter (fun z => eqb z (nm x2, nm x3)) = [] by simp [hEq], List.append_nil]
                        exact hooo
                      · rw [ht1, List.filter_append, hFr.out, show [(x, y)].filter (fun z => !eqb z (nm x2, nm x3)) = [(x, y)] by simp [hEq]]
                        rw [pairRow_append', List.length_append]
                        exact ho3
                      · intro k e e2
                        rcases hat3 with q | q
                        · exact hdis k e (by rw [← q]; exact e2)
                        · rw [q] at e2; have := hlt_o k e; have := Option.some.inj e2; rw [size_alloc] at this; omega

                · have hjl : ¬ (j : Int) < FL.length := by omega
                  have ej : j = FL.length := by omega
                  rw [ej, List.take_length] at hoq hor
                  obtain ⟨aq, cq, hqe⟩ := own_slice hoq
                  obtain ⟨ar, cr, hre⟩ := own_slice hor
                  subst hqe hre
                  have hph := hp2.hold hb2 (Nat.le_refl _) hk9 hoq hor hdis
                  have htW := (ht2.below hb2)
                  have hp3 := hp2.below hb2
                  have s5 := row_cellAt hp3 hk9
                  have s6 : wr.cell? ⟨A6, ix x2 x3, none⟩ = some (.bool false) := flag_cell hp3 hk9 (by rw [hkx]; rfl)
                  have fz5 : ∀ q, wr.frozen? ⟨A5, q, none⟩ = false := fun q => by obtain ⟨ds, hds, _⟩ := hp3.arr; exact free_of hds
                  have fz6 : ∀ q, wr.frozen? ⟨A6, q, none⟩ = false := fun q => by obtain ⟨ds, hds, _⟩ := hp3.flags; exact free_of hds
                  have h56 : ¬ A5 = A6 := hp2.ne
                  have h65 : ¬ A6 = A5 := fun e => hp2.ne e.symm
                  go_wp2
                  go_roundg (gO - 1)
                  case measure => omega
                  case rel => exact ⟨i + 1, hilt, by go_num, by omega, _, _, _, _, hph.2 _ _ _ _ _ _ htW, hph.1⟩

            | some q =>
              go_wp2_with fail
              refine (hold_ts_known x2 x3 q ht hkx).mono ?_
              rintro e W2 ⟨rfl, ht2, hk2⟩
              have fl3 : W2.cell? ⟨A6, ix x2 x3, none⟩ = some (.bool true) := flag_cell (hp.kept hk2) hk9 (by rw [hkx]; rfl)
              go_wp2
              go_roundg (gk - 1)
              case measure => omega
              case rel => exact ⟨i + 1, hilt, by go_num, by omega, FL, H, n, U, (ht2).mono (by omega), hp.kept hk2⟩

          · have b2 : ((x1 : Int) % 5 == 2) = false := by simp; omega
            by_cases z3 : x1 % 5 = 3
            · have b3 : ((x1 : Int) % 5 == 3) = true := by simp; omega
              clear z0 z1 z2 z3 fl1
              cases hkx : H (ix x2 x3) with
              | none =>
                go_wp2_with fail
                refine (rel_ts x2 x3 ht (by omega)).mono ?_
                rintro e W2 ⟨rfl, ht2, hk2⟩
                rw [upd_none hkx, hkx] at ht2
                have ht3 : TS B B i W2 FL H n := by simpa using ht2
                have fl3 : W2.cell? ⟨A6, ix x2 x3, none⟩ = some (.bool false) := flag_cell (hp.kept hk2) hk9 (by rw [hkx]; rfl)
                clear ht2
                go_wp2
                go_roundg (gk - 1)
                case measure => omega
                case rel => exact ⟨i + 1, hilt, by go_num, by omega, FL, H, n, U, (ht3).mono (by omega), hp.kept hk2⟩
              | some q =>
                go_wp2_with fail
                refine (rel_ts x2 x3 ht (by omega)).mono ?_
                rintro e W2 ⟨rfl, ht2, hk2⟩
                have hp2 := hp.kept hk2
                have hP2 := hk2.blk hP1 (by decide) (by decide)
                have q0 := cell_of (j := 0) hP2 rfl
                have q1 := cell_of (j := 1) hP2 rfl
                have hl2 := hp2.lt
                have hFn := TS.fl_le ht
                have fl3 : W2.cell? ⟨A6, ix x2 x3, none⟩ = some (.bool true) := flag_cell hp2 hk9 (by rw [hkx]; rfl)
                have hrow := hp2.rows _ hk9
                have hql : q.length ≤ i := by have := (TS.fl_le ht).2 _ hk9; rw [hkx] at this; exact this
                rw [hkx] at hrow ht2
                have ht2' : TS B B i W2 (FL ++ q) (upd H (ix x2 x3) none) (n - 1) := ht2
                have hrow' : W2.ownsRow B 108 2 (U (ix x2 x3)) q.length (pairRow q) := hrow
                clear hrow ht2
                have r5 := row_cellAt hp2 hk9
                obtain ⟨af, cf, hfe⟩ := cut_slice hp2.q
                subst hfe
                have key : ∀ (W3 : World) (vf' : Value), Fr (fun j => (Value.slice af FL.length cf).ownBlock = some j) W2 W3 → CutRow W3 B 108 2 vf' (FL ++ q).length (pairRow (FL ++ q)) → (vf'.ownBlock = (Value.slice af FL.length cf).ownBlock ∨ ∃ g, vf'.ownBlock = some g ∧ W2.heap.size ≤ g) → P6 B A5 A6 (FL ++ q) H vf' U w W3 ∧ TS B B i W3 (FL ++ q) (upd H (ix x2 x3) none) (n - 1) := by
                  intro W3 vf' fr3 hq3 hat3
                  refine ⟨hp2.newFl fr3 hq3 (fun j g hj hg => ?_), ht2'.keep fr3 (fun j hj => hp2.notFoot j (.inr (.inr (.inr hj))))⟩
                  rcases hat3 with e | ⟨d, e, hd⟩
                  · rw [e]; exact hp2.ap j g hj hg
                  · rw [e]; intro e2; have := own_lt (hp2.rows j hj) hg; have := Option.some.inj e2; omega
                rcases hrow'.2 with ⟨e, hl0⟩ | ⟨gu, cu, curu, e, _⟩
                · have hq0 : q = [] := List.length_eq_zero_iff.1 hl0
                  rw [e] at r5
                  have hfc : FL.length ≤ cf := by
                    rcases hp2.q.2 with ⟨e3, h3⟩ | ⟨_, _, _, _, e3, _, _, h3, _⟩
                    · rw [h3]; exact Nat.zero_le _
                    · injection e3 with _ _ e3; rw [e3]; exact h3
                  have hpz : P6 B A5 A6 (FL ++ q) H (.slice af FL.length cf) U w W2 ∧ TS B B i W2 (FL ++ q) (upd H (ix x2 x3) none) (n - 1) := key W2 _ (Fr.refl _ _) (by rw [hq0, List.append_nil]; exact hp2.q) (.inl rfl)
                  have hcl := hpz.1.clear hk9
                  have fz5 : ∀ q, W2.frozen? ⟨A5, q, none⟩ = false := fun q => by obtain ⟨ds, hds, _⟩ := hp2.arr; exact free_of hds
                  have fz6 : ∀ q, W2.frozen? ⟨A6, q, none⟩ = false := fun q => by obtain ⟨ds, hds, _⟩ := hp2.flags; exact free_of hds
                  have h56 : ¬ A5 = A6 := hp2.ne
                  have h65 : ¬ A6 = A5 := fun e => hp2.ne e.symm
                  go_wp2_with (at_builtin; refine wpList_append_nilx _ rfl _ _ 84 rfl 108 i8 Yba.underlying84 hi8 af FL.length cf rfl hfc rfl ?_)
                  go_roundg (gk - 1)
                  case measure => omega
                  case rel => exact ⟨i + 1, hilt, by go_num, by omega, _, _, _, _, (hcl.2 _ _ _ _ _ _ hpz.2).mono (by omega), hcl.1⟩
                · rw [e] at r5 hrow'
                  go_wp2_with (at_builtin; refine wpList_append_cut _ rfl _ _ 84 rfl B 108 i8 _ 2 32 Yba.underlying84 hi8 hz80 hz81 hz82 rfl (by decide) (.slice af FL.length cf) FL.length (pairRow FL) rfl hp2.q ⟨gu, 0, none⟩ q.length cu (pairRow q) rfl (pairRow_length q) hrow'.cells' (pairRow_one' q) (by unfold maxLen; omega) (by omega) hl2.2.2 ?_; intro vf' W3 hq3 hg3 hat3; have hpz := key W3 vf' (Fr.of_grown hg3 (fun j e => e)) (by rw [pairRow_append', List.length_append]; exact hq3) hat3; have hcl := hpz.1.clear hk9; have s5 := row_cellAt hpz.1 hk9; have s6 : W3.cell? ⟨A6, ix x2 x3, none⟩ = some (.bool true) := flag_cell hpz.1 hk9 (by rw [hkx]; rfl); have fz5 : ∀ q, W3.frozen? ⟨A5, q, none⟩ = false := (fun q => by obtain ⟨ds, hds, _⟩ := hpz.1.arr; exact free_of hds); have fz6 : ∀ q, W3.frozen? ⟨A6, q, none⟩ = false := (fun q => by obtain ⟨ds, hds, _⟩ := hpz.1.flags; exact free_of hds); have h56 : ¬ A5 = A6 := hp2.ne; have h65 : ¬ A6 = A5 := (fun e => hp2.ne e.symm))
                  go_roundg (gk - 1)
                  case measure => omega
                  case rel => exact ⟨i + 1, hilt, by go_num, by omega, _, _, _, _, (hcl.2 _ _ _ _ _ _ hpz.2).mono (by omega), hcl.1⟩

            · have b3 : ((x1 : Int) % 5 == 3) = false := by simp; omega
              clear z0 z1 z2 z3 fl1
              have hFLq := cut_pair hp.q
              cases FL with
              | nil =>
                go_wp2_with fail
                refine (next_ts_nil ht).mono ?_
                rintro e W2 ⟨rfl, ht2, hk2⟩
                have hp2 := hp.kept hk2
                obtain ⟨af, cf, hfe⟩ := cut_slice hp2.q
                subst hfe
                go_wp2_with (refine wpList_store_row rfl 49 _ _ rfl W2.heap.size 0 (msgOf ⟨#[]⟩ ⟨#[]⟩) rfl rfl _ 49 (show (World.alloc W2 _).heap[W2.heap.size]? = _ from by rw [heap_alloc, if_pos rfl]) (by simp [msgOf]) size49 (msg_one _ _) ?_; intro W3 hE' hf3)
                go_roundg (gk - 1)
                case measure => omega
                case rel =>
                  have hb3 : Below W2.heap.size W2 W3 := (((Fr.refl (· = W2.heap.size) W2).alloc _).trans hf3).below (Nat.le_refl _) (fun k e => by omega)
                  exact ⟨i + 1, hilt, by go_num, by omega, [], H, n, U, (ht2.below hb3).mono (by omega), hp2.below hb3⟩
              | cons p FL =>
                obtain ⟨px, py⟩ := p
                go_wp2_with fail
                refine (next_ts_cons px py ht (by omega)).mono ?_
                rintro e W2 ⟨rfl, ht2, hk2⟩
                have hp2 := hp.kept hk2
                obtain ⟨g, of, cf, hve, hgl, hcf, hcells⟩ := (cut_pair hp2.q).2 (by simp)
                obtain ⟨k0, k1⟩ := hcells 0 px py rfl
                subst hve
                obtain ⟨ad2, hadE, hq', hblk⟩ := cut_tail hp2.q
                have hadE' : (if cf = 1 then some (⟨g, of, none⟩ : Addr) else some ⟨g, of + 2, none⟩) = ad2 := by rw [← hadE]; split <;> simp [Addr.add]
                have hFL1 : ((px, py) :: FL).length = FL.length + 1 := rfl
                generalize hnf : ((px, py) :: FL).length = nf at *
                rw [show nf - 1 = FL.length by omega] at hq' hblk
                have h1nf : (1 : Int) ≤ nf := by omega
                have h0nf : (0 : Int) < nf := by omega
                have hneq := neq108 px py px py
                have hqb : (px.toList == px.toList && py.toList == py.toList) = true := by simp
                have k0' : W2.cell? ⟨g, of, none⟩ = some (.string px) := k0
                have k1' : W2.cell? ⟨g, of + 1, none⟩ = some (.string py) := k1
                clear k0 k1 hcells hadE
                go_wp2_with (refine wpList_store_row rfl 49 _ _ rfl W2.heap.size 0 (msgOf px py) rfl rfl _ 49 (show (World.alloc W2 _).heap[W2.heap.size]? = _ from by rw [heap_alloc, if_pos rfl]) (by simp [msgOf]) size49 (msg_one _ _) ?_; intro W3 hE' hf3; have hb3 : Below W2.heap.size W2 W3 := (((Fr.refl (· = W2.heap.size) W2).alloc _).trans hf3).below (Nat.le_refl _) (fun k e => by omega); have m1 : W3.cell? ⟨W2.heap.size, 1, none⟩ = some (.string px) := cell_of hE'.out rfl; have m2 : W3.cell? ⟨W2.heap.size, 2, none⟩ = some (.string py) := cell_of hE'.out rfl; have j0 := (World.cell?_of_block (a := ⟨g, of, none⟩) (hb3.block g hgl)).trans k0'; have j1 := (World.cell?_of_block (a := ⟨g, of + 1, none⟩) (hb3.block g hgl)).trans k1')
                go_quiet (fail)
                go_wp2
                go_roundg (gk - 1)
                case measure => omega
                case rel =>
                  have hb4 : Below W2.heap.size W2 (W3.drewN nq) := hb3.trans ⟨rfl, rfl, rfl, Nat.le_refl _, fun _ _ => rfl⟩
                  refine ⟨i + 1, hilt, by go_num, by omega, FL, H, n, U, (ht2.below hb4).mono (by omega), (hp2.below hb4).newFl (Fr.refl _ _) (cut_fr hq' (Fr.of_below hb4 (fun _ => False)) (fun _ _ => id)) (fun j g' hj hg e => hp2.ap j g' hj hg (hblk g' e))⟩

    · have hxx : True := trivial
      have hil : ¬ (i : Int) < L := by omega
      have hiL : i = L := by omega
      subst hiL
      clear hil hilt hile hgk
      go_wp2
      go_loopg [19] 9 (fun gk2 p wr2 => ∃ j : Nat, j ≤ 9 ∧ p = .int .i64 j ∧ 9 ≤ gk2 + j ∧ TS B B i wr2 FL H n ∧ P6 B A5 A6 FL H u4 U w wr2)
      case atStart => exact ⟨0, Nat.zero_le _, rfl, by omega, ht, hp⟩
      case round =>
        clear ht hp
        obtain ⟨j, hjle, rfl, hgk, ht, hp⟩ := hrel
        by_cases hjlt : j < 9
        · have hjl : (j : Int) < 9 := by omega
          obtain ⟨v, h, hm, ms, V, f, ht0, hd⟩ := ht
          have d7 : wr.cell? ⟨B, 7, none⟩ = some hm := cell_of ht0.blk rfl
          have lk := fun k => (ht0.look hjlt (wr.drewN k) (fun r _ => rfl)).1
          have hq3 : j / 3 < 256 := by omega
          have hr3 : j % 3 < 256 := by omega
          obtain ⟨hsh, hshl, hhl⟩ := ht0.heldShows hjlt
          have htt : TS B B i wr FL H n := ⟨_, _, _, _, _, _, ht0, hd⟩
          generalize ((H j).map fun _ => V j).getD (.slice none 0 0) = qv at *
          generalize hob : (H j).isSome = ob at *
          go_wp2
          go_quiet (refine Calls.quiet_of_same (name_any _ (by assumption) _))
          generalize hWq : World.drewN _ _ = Wq
          have hbq : Below wr.heap.size wr Wq := by rw [← hWq]; exact ⟨rfl, rfl, rfl, Nat.le_refl _, fun _ _ => rfl⟩
          clear hWq lk d7
          have htq := htt.below hbq
          have hpq := hp.below hbq
          have hou := hpq.rows j hjlt
          have m1 := row_cellAt hpq hjlt
          have m2 : Wq.cell? ⟨A6, j, none⟩ = some (.bool ob) := flag_cell hpq hjlt hob
          have hshq := hsh.of_below hbq hshl
          have hshlq : ∀ g, qv.ownBlock = some g → g < Wq.heap.size := fun g hg => Nat.lt_of_lt_of_le (hshl g hg) hbq.size
          have l9 := hpq.lt.1
          have l10 := hpq.lt.2.1
          have hobb : (ob != ob) = false := by simp
          obtain ⟨au, cu, hue⟩ := own_slice hou
          rw [hue] at m1 hou
          go_wp2
          go_region_held3 (fun w' => w'.cell? ⟨A5, j, none⟩ = some (.slice au ((H j).getD []).length cu) ∧ w'.cell? ⟨A6, j, none⟩ = some (.bool ob))
            (first | go_keep | (exact ⟨(World.cell?_of_block (a := ⟨A5, j, none⟩) (hb67.block A5 l9)).trans m1, (World.cell?_of_block (a := ⟨A6, j, none⟩) (hb67.block A6 l10)).trans m2⟩) | (exact ⟨(World.cell?_of_block (a := ⟨A5, j, none⟩) (hb6.block A5 l9)).trans m1, (World.cell?_of_block (a := ⟨A6, j, none⟩) (hb6.block A6 l10)).trans m2⟩))
            (first | (go_at_call 10; refine (pairs_any qv ((H j).getD []) Wq.drew hshq hshlq (by omega)).mono ?_; rintro e W6 ⟨v6, rfl, ho6, hn6, hb6⟩) | (go_at_call 13; refine (eq_same _ _ _ _ v6 _ ((H j).getD []) W6 ho6 (own_fr hou (Fr.of_below (⟨hb6.os, hb6.tape, hb6.output, hb6.size, hb6.block⟩ : Below Wq.heap.size Wq W6) (fun _ => False)) (fun _ _ => id)) (by omega)).mono ?_; rintro e W7 ⟨rfl, hb7⟩; have hb67 : Below Wq.heap.size Wq W7 := (⟨hb6.os, hb6.tape, hb6.output, hb6.size, hb6.block⟩ : Below Wq.heap.size Wq W6).trans (hb7.mono hb6.size)))
          all_goals
            go_wp2
            go_roundg (gk - 1)
            case measure => omega
            case rel => exact ⟨j + 1, hjlt, by go_num, by omega, htq.below hb67, hpq.below hb67⟩
        · have hjl : ¬ (j : Int) < 9 := by omega
          obtain ⟨af, cf, hfe⟩ := cut_slice hp.q
          subst hfe
          have hiN : i ≤ 1024 := hL
          have hFLn : FL.length ≤ i := (TS.fl_le ht).1
          go_wp2
          go_loopg [23] FL.length (fun gk3 p wr3 => ∃ m : Nat, m ≤ FL.length ∧ p = .int .i64 m ∧ FL.length ≤ gk3 + m ∧ TS B B i wr3 (FL.drop m) H n ∧ P6 B A5 A6 FL H (.slice af FL.length cf) U w wr3)
          case atStart => exact ⟨0, Nat.zero_le _, rfl, by omega, ht, hp⟩
          case round =>
            clear ht hp
            obtain ⟨m, hmle, rfl, hgk3, ht, hp⟩ := hrel
            by_cases hmlt : m < FL.length
            · have hml : (m : Int) < FL.length := by omega
              obtain ⟨px, py, he⟩ : ∃ px py, FL[m]? = some (px, py) := ⟨_, _, List.getElem?_eq_getElem hmlt⟩
              have hdr : FL.drop m = (px, py) :: FL.drop (m + 1) := by
                obtain ⟨h1, h2⟩ := List.getElem?_eq_some_iff.1 he
                rw [List.drop_eq_getElem_cons h1, h2]
              rw [hdr] at ht
              go_wp2_with fail
              refine (next_ts_cons px py ht (by omega)).mono ?_
              rintro e W2 ⟨rfl, ht2, hk2⟩
              have hp2 := hp.kept hk2
              obtain ⟨g, of, cf', hve, hgl, hcf, hcells⟩ := (cut_pair hp2.q).2 (fun e => by rw [e] at hmlt; simp at hmlt)
              obtain ⟨rfl, rfl⟩ : af = some ⟨g, of, none⟩ ∧ cf = cf' := by injection hve with q1 _ q3; exact ⟨q1, q3⟩
              obtain ⟨k0', k1'⟩ := hcells m px py he
              have hneq := neq108 px py px py
              have hqb : (px.toList == px.toList && py.toList == py.toList) = true := by simp
              clear hcells hdr
              go_wp2_with (refine wpList_store_row rfl 49 _ _ rfl W2.heap.size 0 (msgOf px py) rfl rfl _ 49 (show (World.alloc W2 _).heap[W2.heap.size]? = _ from by rw [heap_alloc, if_pos rfl]) (by simp [msgOf]) size49 (msg_one _ _) ?_; intro W3 hE' hf3; have hb3 : Below W2.heap.size W2 W3 := (((Fr.refl (· = W2.heap.size) W2).alloc _).trans hf3).below (Nat.le_refl _) (fun k e => by omega); have m1 : W3.cell? ⟨W2.heap.size, 1, none⟩ = some (.string px) := cell_of hE'.out rfl; have m2 : W3.cell? ⟨W2.heap.size, 2, none⟩ = some (.string py) := cell_of hE'.out rfl; have j0 := (World.cell?_of_block (a := ⟨g, of + m * 2, none⟩) (hb3.block g hgl)).trans k0'; have j1 := (World.cell?_of_block (a := ⟨g, of + m * 2 + 1, none⟩) (hb3.block g hgl)).trans k1')
              go_quiet (fail)
              go_wp2
              go_roundg (gk - 1)
              case measure => omega
              case rel =>
                have hb4 : Below W2.heap.size W2 (W3.drewN nq) := hb3.trans ⟨rfl, rfl, rfl, Nat.le_refl _, fun _ _ => rfl⟩
                exact ⟨m + 1, hmlt, by go_num, by omega, ht2.below hb4, hp2.below hb4⟩
            · have hml : ¬ (m : Int) < FL.length := by omega
              have hm0 : FL.drop m = [] := List.drop_of_length_le (by omega)
              rw [hm0] at ht
              go_wp2_with fail
              refine (next_ts_nil ht).mono ?_
              rintro e W2 ⟨rfl, ht2, hk2⟩
              have hp2 := hp.kept hk2
              go_wp2_with (refine wpList_store_row rfl 49 _ _ rfl W2.heap.size 0 (msgOf ⟨#[]⟩ ⟨#[]⟩) rfl rfl _ 49 (show (World.alloc W2 _).heap[W2.heap.size]? = _ from by rw [heap_alloc, if_pos rfl]) (by simp [msgOf]) size49 (msg_one _ _) ?_; intro W3 hE' hf3)
              go_ret
              have hb3 : Below W2.heap.size W2 W3 := (((Fr.refl (· = W2.heap.size) W2).alloc _).trans hf3).below (Nat.le_refl _) (fun k e => by omega)
              exact ⟨rfl, (hp2.below hb3).bel⟩
end Go.Proofs.Ybulkcfri
