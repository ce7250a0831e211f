import Derived.Test.YbulkcftmEnd
namespace Go.Proofs.Ybulkcftm
open Go.ChangeShapes Go.WideShapes Go.ChangeAt Go.RowKit
set_option linter.unusedVariables false
set_option maxRecDepth 100000 in
set_option maxHeartbeats 3000000 in
theorem lawA (ad : Addr) (len cap : Nat) (z : List Int) (st : Nat) (w : World) (h0 : 0 < len) (h512 : len ≤ 512) (hlc : len ≤ cap) (hzl : z.length = cap) (hz : ∀ i, i < z.length → w.cell? (ad.add i) = some (.int .u8 (z.getD i 0))) (hwf : ∀ n ∈ z, (Lit.int .u8 n).wf = true) (hst : st < 256)
    (cn : Nat → Nat) (hcn : ∀ i, 0 < cn i ∧ cn i ≤ 16) (hcz : ∀ i, i < len → (cn i : Int) = z.getD i 0 % 16 + 1 ∧ 0 ≤ z.getD i 0 ∧ z.getD i 0 < 256) :
    Calls Yba.prog 3 #[.slice (some ad) len cap, .int .u8 st] w fun e w' => e = .returned (.bool true) ∧ Below w.heap.size w w' := by
  obtain ⟨i0, hi, hz0, hz1, hz2⟩ := info_parts info26
  obtain ⟨i3, hi3, hz30, hz31, hz32⟩ := info_parts info3
  have hL : ¬ (len : Int) > 512 := by omega
  have hL0 : ((len : Int) == 0) = false := by simp; omega
  have HCZ : Hid (∀ i, i < len → (cn i : Int) = z.getD i 0 % 16 + 1 ∧ 0 ≤ z.getD i 0 ∧ z.getD i 0 < 256) := hcz
  have HZ2 : Hid (∀ i, i < z.length → w.cell? (ad.add i) = some (.int .u8 (z.getD i 0))) := hz
  clear hcz hz
  go_enter Yba.func3, Yba.ntmps3
  go_wp2_with (at_make; refine wpList_make_full _ rfl _ _ 23 rfl w.heap.size 26 i0 (.pointer none) 1 Yba.underlying23 hi hz0 hz1 _ _ _ _ len rfl rfl (by first | rfl | omega) (by first | rfl | omega) (by rw [hz2]; omega) (by unfold maxLen; omega) (Nat.le_refl _) ?_; intro w1 hown hgrow)
  obtain ⟨r7, hr7⟩ : ∃ r7, r7 = w1.heap.size + 1 := ⟨_, rfl⟩
  obtain ⟨r8, hr8⟩ : ∃ r8, r8 = w1.heap.size + 1 + 1 := ⟨_, rfl⟩
  obtain ⟨r6, hr6⟩ : ∃ r6, r6 = w1.heap.size := ⟨_, rfl⟩
  obtain ⟨R, hR⟩ : ∃ R, R = w.heap.size := ⟨_, rfl⟩
  have hI0 : Inv w R r6 r7 r8 len (fun _ => 0) (LCo cn 0 (fun _ => 0)) 0 0 (.slice none 0 0) (.slice none 0 0) [] [] (((w1.alloc (.cells #[.slice (some ⟨w.heap.size, 0, none⟩) len len] 23)).alloc (.cells #[.slice none 0 0] 24)).alloc (.cells #[.slice none 0 0] 24)) := by
    have b1 : Below w.heap.size w w1 := (Below.refl _ _).grown hgrow (Nat.le_refl _) (fun k hk => by cases hk)
    have s1 := b1.size
    rcases hown.2 with ⟨q, _⟩ | ⟨g, cp, cur, q, hg1, hg2, hg3, hg4, hg5, hg6⟩
    · cases q
    injection q with q1 q2 q3
    injection q1 with q1
    injection q1 with q1
    subst q1
    have hlt := lt_of_some hg2
    refine ⟨b1.trans (((below_alloc _ _).trans ((below_alloc _ _).mono (by rw [size_alloc]; omega))).trans ((below_alloc _ _).mono (by rw [size_alloc, size_alloc]; omega)) |>.mono s1), ⟨by omega, by omega, by omega, by omega, by omega⟩, ?_, ?_, ?_, ⟨cur, ?_, by rw [hg5, ← q3]; omega, (fun j hj => by omega)⟩, World.ownsRow_nil _ _ _ _, World.ownsRow_nil _ _ _ _, (fun g hg => by cases hg), (fun j hj => by omega), (fun j j' hj => by omega)⟩
    · rw [heap_alloc, if_neg (by rw [size_alloc, size_alloc]; omega), heap_alloc, if_neg (by rw [size_alloc]; omega), heap_alloc, if_pos hr6, hR]
    · rw [heap_alloc, if_neg (by rw [size_alloc, size_alloc]; omega), heap_alloc, if_pos (by rw [size_alloc]; exact hr7)]
    · rw [heap_alloc, if_pos (by rw [size_alloc, size_alloc]; exact hr8)]
    · rw [heap_alloc, if_neg (by rw [size_alloc, size_alloc]; omega), heap_alloc, if_neg (by rw [size_alloc]; omega), heap_alloc, if_neg (by omega), hR]; exact hg2
  rw [← hr8, ← hr7, ← hr6, ← hR]
  rw [← hR] at hI0
  clear hr8 hr7 hr6 hR hown hgrow
  generalize (World.alloc (World.alloc _ _) _) = wS at *
  have HE := Exps.nil cn
  go_loopg [9, 10] len (fun gk s p wr => ∃ i : Nat, i ≤ len ∧ p = .int .i64 i ∧ len ≤ gk + i ∧ ∃ lb v1 v2 xs1 xs2, s = .int .u64 ((off cn i - 1 : Nat) : Int) ∧ Inv w R r6 r7 r8 len lb (LCo cn i lb) i i v1 v2 xs1 xs2 wr ∧ Exps cn i 0 xs1 xs2)
  case atStart => exact ⟨0, Nat.zero_le _, rfl, by omega, _, _, _, _, _, rfl, hI0, HE⟩
  case round =>
    obtain ⟨i, hile, rfl, hgk, lb, v1, v2, xs1, xs2, rfl, hI, hE⟩ := hrel
    clear hI0 HE
    obtain ⟨gO, hgO⟩ : ∃ gO, gO = gk := ⟨gk, rfl⟩
    have hoff := off_le cn hcn i
    by_cases hilt : i < len
    · have hil : (i : Int) < len := by omega
      have hcell : wr.cell? (ad.add i) = some (.int .u8 (z.getD i 0)) := (World.cell?_of_block (hI.bel.block _ (World.block_lt_of_cell? w _ (HZ2.out i (by omega))))).trans (HZ2.out i (by omega))
      obtain ⟨hci, hzb1, hzb2⟩ := HCZ.out i hilt
      generalize z.getD i 0 = zi at *
      have HC : Hid ((cn i : Int) = zi % 16 + 1) := hci
      clear hci
      have hz39 := run_zero39
      have hs39 := Z39_size
      generalize hZ : Z39 = Z at *
      have HZ : Hid (Z39 = Z) := hZ
      clear hZ
      go_wp2
      rw [← HC.out]
      obtain ⟨B, hB⟩ : ∃ B, B = wr.heap.size := ⟨_, rfl⟩
      rw [← hB]
      obtain ⟨lb2, hlb2, hI2⟩ : ∃ lb2, lb2 i = B ∧ Inv w R r6 r7 r8 len lb2 (LCi cn i 0 lb2) (i + 1) i v1 v2 xs1 xs2 (wr.alloc (.cells Z 39)) := by
        refine ⟨fun j => if j = i then wr.heap.size else lb j, by show (if i = i then _ else _) = _; rw [if_pos rfl, hB], hI.newLeaf Z (Nat.le_refl _) (fun j cs hj h => ⟨fun _ => ?_, fun e => by omega⟩) ⟨fun e => by omega, fun _ => by rw [← HZ.out]; exact LeafCs.zero i _⟩⟩
        have hn : nxtOf i (fun j => if j = i then wr.heap.size else lb j) j = nxtOf i lb j := by
          unfold nxtOf
          by_cases e : j + 1 < i
          · rw [if_pos e, if_pos e]; simp only [if_neg (show ¬ j + 1 = i by omega)]
          · rw [if_neg e, if_neg e]
        rw [hn]; exact h
      clear hB hI hz39 HZ
      generalize (World.alloc wr _) = wb at *
      have hcni := hcn i
      go_loopg [9, 13] 17 (fun gk s p wr => ∃ k : Nat, k ≤ cn i ∧ p = .int .i64 k ∧ cn i < gk + k ∧ ∃ v1 v2 xs1 xs2, s = .int .u64 ((off cn i + k - 1 : Nat) : Int) ∧ Inv w R r6 r7 r8 len lb2 (LCi cn i k lb2) (i + 1) i v1 v2 xs1 xs2 wr ∧ Exps cn i k xs1 xs2)
      case atStart => exact ⟨0, Nat.zero_le _, rfl, by omega, _, _, _, _, rfl, hI2, hE⟩
      case round =>
        clear hI2 hE hcell
        obtain ⟨k, hkle, rfl, hgk2, v1, v2, xs1, xs2, rfl, hI, hE⟩ := hrel
        by_cases hklt : k < cn i
        · have hkl : (k : Int) < cn i := by omega
          obtain ⟨hBlo, cs, hblk, hLC⟩ := hI.leaf i (by omega)
          rw [hlb2] at hBlo hblk
          have hLcs := hLC.2 rfl
          have hfz : ∀ q, wr.frozen? ⟨B, q, none⟩ = false := fun q => free_of hblk
          obtain ⟨yk, hyk⟩ := some_of_lt hLcs.size k (by omega)
          have ck := cell_of hblk hyk
          have cu := cell_of hblk hLcs.used
          have hpl := place_lt i k
          have hk16 : (k : Int) < 16 := by omega
          have hk16a : ¬ k = 16 := by omega
          have hk16b : ¬ 16 = k := by omega
          go_wp2_with fail
          refine (place_any _ i k (by omega) (by omega)).mono ?_
          rintro e w3 ⟨rfl, rfl⟩
          have hbits := mask_or i k (by omega)
          by_cases hz0' : i = 0 ∧ k = 0
          · have hb1 : ((i : Int) == 0) = true := by simp; omega
            have hb2 : ((k : Int) == 0) = true := by simp; omega
            have hz0 : Hid (i = 0 ∧ k = 0) := hz0'
            clear hz0'
            go_wp2
            go_roundg (gk - 1)
            case measure => omega
            case rel =>
              obtain ⟨e1, e2⟩ := hz0.out
              have hIA : Inv w R r6 r7 r8 len lb2 (LCi cn i (k + 1) lb2) (i + 1) i _ _ xs1 xs2 ((w3.setCell ⟨B, k, none⟩ (.int .u8 (place i k))).setCell ⟨B, 16, none⟩ (.int .u16 (mask i (k + 1)))) :=
                hI.setLeaf i (Nat.lt_succ_self i) (by rw [hlb2]; exact ((Fr.refl (· = B) w3).setCell (W := B) rfl _ _).setCell (W := B) rfl _ _) _ (by rw [hlb2]; exact heap_setCell_same (heap_setCell_same hblk)) (fun j cs _ hj h => ⟨h.1, fun e => absurd e hj⟩)
                  ⟨fun e => absurd e (Nat.lt_irrefl _), fun _ => by subst e1 e2; exact hLcs.first⟩
              exact ⟨k + 1, by omega, by go_num, by omega, _, _, _, _, by subst e1 e2; rfl, hIA, by subst e1 e2; exact hE.first⟩
          · have hz0 : Hid (¬ (i = 0 ∧ k = 0)) := hz0'
            by_cases hi0' : i = 0
            · have hb1 : ((i : Int) == 0) = true := by simp; omega
              have hb2 : ((k : Int) == 0) = false := by simp; omega
              clear hi0' hz0'
              have n7 : ¬ B = r7 := tag_ne hblk hI.b7 (by decide)
              have n7' : ¬ r7 = B := fun e => n7 e.symm
              have n78 : ¬ r7 = r8 := hI.lo.2.2.2.2
              have n87 : ¬ r8 = r7 := fun e => n78 e.symm
              have hpos := off_pos cn hcn i k (fun q => hz0.out q)
              have hl1 := hE.len1
              have hl2 := hE.len2
              have hm1 : xs1.length + 1 ≤ maxLen := by unfold maxLen; omega
              have hm2 : (xs1.length + 1) * 8 ≤ 140737488355328 := by omega
              have hm3 : xs2.length + 1 ≤ maxLen := by unfold maxLen; omega
              have hm4 : (xs2.length + 1) * 8 ≤ 140737488355328 := by omega
              clear hl1 hl2
              obtain ⟨a1, c1, rfl⟩ := own_slice hI.o1
              obtain ⟨a2, c2, rfl⟩ := own_slice hI.o2
              obtain ⟨sq, hsq⟩ : ∃ sq, off cn i + k - 1 = sq := ⟨_, rfl⟩
              rw [hsq]
              have HS : Hid (off cn i + k = sq + 1) := by show _ = _; omega
              have hsqb : sq < 100000 := by omega
              clear hsq
              have hp1 : (place i k : Int) < 16 := by omega
              have HSTEP := hLcs.step (by omega) (.int .u32 0) (.int .u64 0) (.int .u32 0) (.int .u32 0) (.int .u64 0) (.int .u32 0) (.int .u64 0) (.slice none 0 0) (.bool false)
              have HEX := hE.step hpos
              have hcast : ((sq + 1 : Nat) : Int) = (sq : Int) + 1 := by omega
              rw [HS.out, hcast] at HSTEP
              clear hpos hcast
              obtain ⟨p, hpe⟩ : ∃ p, place i k = p := ⟨_, rfl⟩
              rw [hpe] at hbits hpl hp1 HSTEP HEX ⊢
              clear hpe
              have hqs : 25 + p * 11 + 11 ≤ 201 := by omega
              go_wp2_with (first | (refine wpList_store_mid rfl 36 _ _ rfl B (25 + p * 11) (spanV sq) rfl rfl (span_there (heap_setCell_same (heap_setCell_same hblk)) (by simp only [Array.size_setIfInBounds]; rw [hLcs.size]; exact hqs)) z36 (spanV_one sq) ?_; generalize hA : World.setCells _ _ _ _ = wA; have blkA := span_heap (q := 25 + p * 11) (heap_setCell_same (k := 16) (v := .int .u16 (mask i (k + 1))) (heap_setCell_same (k := k) (v := .int .u8 p) hblk)) (.int .u32 0) (.int .u64 0) (.int .u32 0) (.int .u64 ((sq : Int) + 1)) (.int .u32 0) (.int .u64 0) (.int .u32 0) (.int .u64 0) (.slice none 0 0) (.bool (((sq : Int) + 1) % 3 == 0)) (.bool false); have frA := span_fr B (spanV sq).toList (25 + p * 11) _ _ (((Fr.refl (· = B) w3).setCell (W := B) rfl k (.int .u8 p)).setCell (W := B) rfl 16 (.int .u16 (mask i (k + 1)))); have hA' : World.setCells _ B (25 + p * 11) (spanV sq).toList = wA := hA; rw [show (World.setCells _ B (25 + p * 11) [_, _, _, _, _, _, _, _, _, _, _]) = wA from hA] at blkA; rw [hA'] at frA; clear hA hA'; have hIA : Inv w R r6 r7 r8 len lb2 (LCi cn i (k + 1) lb2) (i + 1) i _ _ xs1 xs2 wA := hI.setLeaf i (Nat.lt_succ_self i) (by rw [hlb2]; exact frA) _ (by rw [hlb2]; exact blkA) (fun j cs _ hj h => ⟨h.1, fun e => absurd e hj⟩) ⟨fun e => absurd e (Nat.lt_irrefl _), fun _ => HSTEP⟩; have c7A := cell_of (j := 0) hIA.b7 rfl; clear blkA frA) | (at_builtin; refine wpList_append_own_at _ rfl _ _ 24 rfl w.heap.size 3 i3 (.int .i64 0) 1 8 Yba.underlying24 hi3 hz30 hz31 hz32 rfl (by decide) (.slice a1 xs1.length c1) xs1.length xs1 rfl (hIA.o1.alloc _) ⟨wA.heap.size, 0, none⟩ 1 1 [.int .i64 i] rfl rfl (news_one wA _) (one_int _ _) hm1 hm2 (by rw [size_alloc]; exact Nat.le_succ_of_le hIA.bel.size) ?_; intro v1' wB hoB hgB hnB hatB; have hIB := hIA.app1 (o := .cells #[.int .i64 i] 3) (x := .int .i64 i) hoB hgB hatB; obtain ⟨b7B, b8B⟩ := hIA.b7_grown hgB; obtain ⟨a1', c1', hv1'⟩ := own_slice hoB; subst hv1'; have c7B := cell_of (j := 0) b7B rfl; have f7B : wB.frozen? ⟨r7, 0, none⟩ = false := free_of b7B; have c8B := cell_of (j := 0) b8B rfl; clear hoB hgB hnB hatB b7B b8B) | (at_builtin; refine wpList_append_own_at _ rfl _ _ 24 rfl w.heap.size 3 i3 (.int .i64 0) 1 8 Yba.underlying24 hi3 hz30 hz31 hz32 rfl (by decide) (.slice a2 xs2.length c2) xs2.length xs2 rfl (hIB.o2.alloc _) ⟨wB.heap.size, 0, none⟩ 1 1 [.int .i64 p] rfl rfl (fun j u hj => by have q := news_one (wB.setCell ⟨r7, 0, none⟩ (.slice a1' (xs1.length + 1) c1')) (.int .i64 p) j u hj; rw [size_setCell] at q; exact q) (one_int _ _) hm3 hm4 (by rw [size_alloc]; exact Nat.le_succ_of_le hIB.bel.size) ?_; intro v2' wD hoD hgD hnD hatD; have hID := hIB.app2 (o := .cells #[.int .i64 p] 3) (x := .int .i64 p) hoD hgD hatD; have b8D := hIB.b8_grown hgD; obtain ⟨a2', c2', hv2'⟩ := own_slice hoD; subst hv2'; have c8D := cell_of (j := 0) b8D rfl; have f8D : wD.frozen? ⟨r8, 0, none⟩ = false := free_of b8D; clear hoD hgD hnD hatD b8D))
              go_roundg (gk - 1)
              case measure => omega
              case rel =>
                exact ⟨k + 1, by omega, by go_num, by omega, _, _, _, _, by rw [show off cn i + (k + 1) - 1 = sq + 1 by have := HS.out; omega]; go_num, hID, HEX⟩
            · have hb1 : ((i : Int) == 0) = false := by simp; omega
              clear hi0' hz0'
              have n7 : ¬ B = r7 := tag_ne hblk hI.b7 (by decide)
              have n7' : ¬ r7 = B := fun e => n7 e.symm
              have n78 : ¬ r7 = r8 := hI.lo.2.2.2.2
              have n87 : ¬ r8 = r7 := fun e => n78 e.symm
              have hpos := off_pos cn hcn i k (fun q => hz0.out q)
              have hl1 := hE.len1
              have hl2 := hE.len2
              have hm1 : xs1.length + 1 ≤ maxLen := by unfold maxLen; omega
              have hm2 : (xs1.length + 1) * 8 ≤ 140737488355328 := by omega
              have hm3 : xs2.length + 1 ≤ maxLen := by unfold maxLen; omega
              have hm4 : (xs2.length + 1) * 8 ≤ 140737488355328 := by omega
              clear hl1 hl2
              obtain ⟨a1, c1, rfl⟩ := own_slice hI.o1
              obtain ⟨a2, c2, rfl⟩ := own_slice hI.o2
              obtain ⟨sq, hsq⟩ : ∃ sq, off cn i + k - 1 = sq := ⟨_, rfl⟩
              rw [hsq]
              have HS : Hid (off cn i + k = sq + 1) := by show _ = _; omega
              have hsqb : sq < 100000 := by omega
              clear hsq
              have hp1 : (place i k : Int) < 16 := by omega
              have HSTEP := hLcs.step (by omega) (.int .u32 0) (.int .u64 0) (.int .u32 0) (.int .u32 0) (.int .u64 0) (.int .u32 0) (.int .u64 0) (.slice none 0 0) (.bool false)
              have HEX := hE.step hpos
              have hcast : ((sq + 1 : Nat) : Int) = (sq : Int) + 1 := by omega
              rw [HS.out, hcast] at HSTEP
              clear hpos hcast
              obtain ⟨p, hpe⟩ : ∃ p, place i k = p := ⟨_, rfl⟩
              rw [hpe] at hbits hpl hp1 HSTEP HEX ⊢
              clear hpe
              have hqs : 25 + p * 11 + 11 ≤ 201 := by omega
              go_wp2_with (first | (refine wpList_store_mid rfl 36 _ _ rfl B (25 + p * 11) (spanV sq) rfl rfl (span_there (heap_setCell_same (heap_setCell_same hblk)) (by simp only [Array.size_setIfInBounds]; rw [hLcs.size]; exact hqs)) z36 (spanV_one sq) ?_; generalize hA : World.setCells _ _ _ _ = wA; have blkA := span_heap (q := 25 + p * 11) (heap_setCell_same (k := 16) (v := .int .u16 (mask i (k + 1))) (heap_setCell_same (k := k) (v := .int .u8 p) hblk)) (.int .u32 0) (.int .u64 0) (.int .u32 0) (.int .u64 ((sq : Int) + 1)) (.int .u32 0) (.int .u64 0) (.int .u32 0) (.int .u64 0) (.slice none 0 0) (.bool (((sq : Int) + 1) % 3 == 0)) (.bool false); have frA := span_fr B (spanV sq).toList (25 + p * 11) _ _ (((Fr.refl (· = B) w3).setCell (W := B) rfl k (.int .u8 p)).setCell (W := B) rfl 16 (.int .u16 (mask i (k + 1)))); have hA' : World.setCells _ B (25 + p * 11) (spanV sq).toList = wA := hA; rw [show (World.setCells _ B (25 + p * 11) [_, _, _, _, _, _, _, _, _, _, _]) = wA from hA] at blkA; rw [hA'] at frA; clear hA hA'; have hIA : Inv w R r6 r7 r8 len lb2 (LCi cn i (k + 1) lb2) (i + 1) i _ _ xs1 xs2 wA := hI.setLeaf i (Nat.lt_succ_self i) (by rw [hlb2]; exact frA) _ (by rw [hlb2]; exact blkA) (fun j cs _ hj h => ⟨h.1, fun e => absurd e hj⟩) ⟨fun e => absurd e (Nat.lt_irrefl _), fun _ => HSTEP⟩; have c7A := cell_of (j := 0) hIA.b7 rfl; clear blkA frA) | (at_builtin; refine wpList_append_own_at _ rfl _ _ 24 rfl w.heap.size 3 i3 (.int .i64 0) 1 8 Yba.underlying24 hi3 hz30 hz31 hz32 rfl (by decide) (.slice a1 xs1.length c1) xs1.length xs1 rfl (hIA.o1.alloc _) ⟨wA.heap.size, 0, none⟩ 1 1 [.int .i64 i] rfl rfl (news_one wA _) (one_int _ _) hm1 hm2 (by rw [size_alloc]; exact Nat.le_succ_of_le hIA.bel.size) ?_; intro v1' wB hoB hgB hnB hatB; have hIB := hIA.app1 (o := .cells #[.int .i64 i] 3) (x := .int .i64 i) hoB hgB hatB; obtain ⟨b7B, b8B⟩ := hIA.b7_grown hgB; obtain ⟨a1', c1', hv1'⟩ := own_slice hoB; subst hv1'; have c7B := cell_of (j := 0) b7B rfl; have f7B : wB.frozen? ⟨r7, 0, none⟩ = false := free_of b7B; have c8B := cell_of (j := 0) b8B rfl; clear hoB hgB hnB hatB b7B b8B) | (at_builtin; refine wpList_append_own_at _ rfl _ _ 24 rfl w.heap.size 3 i3 (.int .i64 0) 1 8 Yba.underlying24 hi3 hz30 hz31 hz32 rfl (by decide) (.slice a2 xs2.length c2) xs2.length xs2 rfl (hIB.o2.alloc _) ⟨wB.heap.size, 0, none⟩ 1 1 [.int .i64 p] rfl rfl (fun j u hj => by have q := news_one (wB.setCell ⟨r7, 0, none⟩ (.slice a1' (xs1.length + 1) c1')) (.int .i64 p) j u hj; rw [size_setCell] at q; exact q) (one_int _ _) hm3 hm4 (by rw [size_alloc]; exact Nat.le_succ_of_le hIB.bel.size) ?_; intro v2' wD hoD hgD hnD hatD; have hID := hIB.app2 (o := .cells #[.int .i64 p] 3) (x := .int .i64 p) hoD hgD hatD; have b8D := hIB.b8_grown hgD; obtain ⟨a2', c2', hv2'⟩ := own_slice hoD; subst hv2'; have c8D := cell_of (j := 0) b8D rfl; have f8D : wD.frozen? ⟨r8, 0, none⟩ = false := free_of b8D; clear hoD hgD hnD hatD b8D))
              go_roundg (gk - 1)
              case measure => omega
              case rel =>
                exact ⟨k + 1, by omega, by go_num, by omega, _, _, _, _, by rw [show off cn i + (k + 1) - 1 = sq + 1 by have := HS.out; omega]; go_num, hID, HEX⟩
        · have hke : k = cn i := by omega
          subst hke
          have hkl : ¬ ((cn i : Nat) : Int) < cn i := by omega
          have hLI := hI.leaf i (Nat.lt_succ_self i)
          rw [hlb2] at hLI
          obtain ⟨hBlo, cs, hblk, hLC⟩ := hLI
          have hLcs := hLC.2 rfl
          obtain ⟨cur, hrow, hrs, hrr⟩ := hI.row
          have c6 := cell_of (j := 0) hI.b6 rfl
          obtain ⟨yR, hyR⟩ := some_of_lt hrs i hilt
          have cRi := cell_of hrow hyR
          have fR : ∀ q, wr.frozen? ⟨R, q, none⟩ = false := fun q => free_of hrow
          have nRB : ¬ R = B := tag_ne hrow hblk (by decide)
          have nBR : ¬ B = R := fun e => nRB e.symm
          have n6B : ¬ r6 = B := tag_ne hI.b6 hblk (by decide)
          have nB6 : ¬ B = r6 := fun e => n6B e.symm
          by_cases hi0 : i = 0
          · have hgi : ¬ (i : Int) > 0 := by omega
            have Hi0 : Hid (i = 0) := hi0
            clear hi0
            go_wp2
            go_roundg (gO - 1)
            case measure => omega
            case rel =>
              have hrw : off cn i + cn i - 1 = off cn (i + 1) - 1 := rfl
              have hS := (hI.imp (LC' := LCo cn (i + 1) lb2) (fun j cs hj h => by
                obtain rfl : j = i := by have := Hi0.out; omega
                show LeafCs cs j (cn j) (off cn j) (nxtOf (j + 1) lb2 j)
                rw [nxtOf_last]; exact h.2 rfl)).setRow hilt
              rw [hlb2] at hS
              exact ⟨i + 1, by omega, by go_num, by omega, lb2, _, _, _, _, by rw [hrw], hS, hE.next⟩
          · have hgi : (i : Int) > 0 := by omega
            obtain ⟨i', hi'⟩ : ∃ i', i = i' + 1 := ⟨i - 1, by omega⟩
            have Hi' : Hid (i = i' + 1) := hi'
            clear hi0 hi'
            obtain ⟨P, hP⟩ : ∃ P, lb2 (i - 1) = P := ⟨_, rfl⟩
            have hLP := hI.leaf (i - 1) (by omega)
            rw [hP] at hLP
            obtain ⟨hPlo, csP, hblkP, hLCP⟩ := hLP
            have hLcP := hLCP.1 (by omega)
            have cR1 := cell_of hrow (hrr (i - 1) (by omega))
            rw [hP] at cR1
            have cR1' : wr.cell? ⟨R, ((i : Int) - 1).toNat, none⟩ = some (.pointer (some ⟨P, 0, none⟩)) := by rw [← cR1]; congr 2; omega
            have hPB : ¬ P = B := fun e => by have := hI.inj (i - 1) i (by omega) (by omega) (by rw [hP, hlb2]; exact e); omega
            have hBP : ¬ B = P := fun e => hPB e.symm
            have nRP : ¬ R = P := tag_ne hrow hblkP (by decide)
            have nPR : ¬ P = R := fun e => nRP e.symm
            have n6P : ¬ r6 = P := tag_ne hI.b6 hblkP (by decide)
            have nP6 : ¬ P = r6 := fun e => n6P e.symm
            obtain ⟨y23, hy23⟩ := some_of_lt hLcs.size 23 (by omega)
            have d23 := cell_of hblk hy23
            have d24 := cell_of hblkP hLcP.next
            have fB : ∀ q, wr.frozen? ⟨B, q, none⟩ = false := fun q => free_of hblk
            have fP : ∀ q, wr.frozen? ⟨P, q, none⟩ = false := fun q => free_of hblkP
            have hib : (i : Int) - 1 < len := by omega
            have HP2 : Hid (lb2 (i - 1) = P) := hP
            clear hP
            go_wp2
            go_roundg (gO - 1)
            case measure => omega
            case rel =>
              have hrw : off cn i + cn i - 1 = off cn (i + 1) - 1 := rfl
              have hIa : Inv w R r6 r7 r8 len lb2 (LCi cn i (cn i) lb2) (i + 1) i v1 v2 xs1 xs2 (wr.setCell ⟨B, 23, none⟩ (.pointer (some ⟨P, 0, none⟩))) :=
                hI.setLeaf i (Nat.lt_succ_self i) (by rw [hlb2]; exact (Fr.refl (· = B) wr).setCell (W := B) rfl _ _) _ (by rw [hlb2]; exact heap_setCell_same hblk) (fun j cs _ hj h => h) ⟨fun e => absurd e (Nat.lt_irrefl _), fun _ => hLcs.put23 hcni.2 _⟩
              have hIb : Inv w R r6 r7 r8 len lb2 (LCo cn (i + 1) lb2) (i + 1) i v1 v2 xs1 xs2 ((wr.setCell ⟨B, 23, none⟩ (.pointer (some ⟨P, 0, none⟩))).setCell ⟨P, 24, none⟩ (.pointer (some ⟨B, 0, none⟩))) := by
                refine hIa.setLeaf (i - 1) (by omega) (by rw [HP2.out]; exact (Fr.refl (· = P) _).setCell (W := P) rfl _ _) _ (by rw [HP2.out]; exact heap_setCell_same (by rw [heap_setCell_other (by exact hBP)]; exact hblkP)) (fun j cs hjm hj h => ?_) ?_
                · show LeafCs cs j (cn j) (off cn j) (nxtOf (i + 1) lb2 j)
                  by_cases e : j = i
                  · subst e; rw [nxtOf_last]; exact h.2 rfl
                  · rw [nxtOf_next lb2 (by omega)]; exact h.1 (by omega)
                · show LeafCs _ (i - 1) (cn (i - 1)) (off cn (i - 1)) (nxtOf (i + 1) lb2 (i - 1))
                  have e : nxtOf (i + 1) lb2 (i - 1) = some ⟨B, 0, none⟩ := by
                    unfold nxtOf
                    rw [if_pos (by omega), show i - 1 + 1 = i by omega, hlb2]
                  rw [e]
                  exact hLcP.put24 (hcn (i - 1)).2 _
              have hS := hIb.setRow hilt
              rw [hlb2] at hS
              exact ⟨i + 1, by omega, by go_num, by omega, lb2, _, _, _, _, by rw [hrw], hS, hE.next⟩
    · have hie : i = len := by omega
      subst hie
      have hil : ¬ ((i : Nat) : Int) < i := by omega
      have hz50 := run_zero50
      have hs50 := Z50_size
      generalize Z50 = Z at *
      go_wp2
      obtain ⟨S, hS⟩ : ∃ S, S = wr.heap.size := ⟨_, rfl⟩
      rw [← hS]
      have hIS := hI.alloc (.cells Z 50)
      have blkS : (wr.alloc (.cells Z 50)).heap[S]? = some (.cells Z 50 (0, 0)) := by rw [heap_alloc, if_pos hS]
      have hSlo : w.heap.size ≤ S := by rw [hS]; exact hI.bel.size
      clear hS
      generalize (World.alloc wr _) = wS2 at *
      obtain ⟨cur, hrow, hrs, hrr⟩ := hIS.row
      have c6 := cell_of (j := 0) hIS.b6 rfl
      have cR0 := cell_of hrow (hrr 0 h0)
      have hZs : 5 ≤ Z.size := Nat.le_of_ble_eq_true hs50
      have hil0 : (0 : Int) < i := by omega
      obtain ⟨y2, hy2⟩ : ∃ v, Z[2]? = some v := ⟨Z[2]'(by omega), Array.getElem?_eq_getElem (by omega)⟩
      obtain ⟨y3, hy3⟩ : ∃ v, Z[3]? = some v := ⟨Z[3]'(by omega), Array.getElem?_eq_getElem (by omega)⟩
      obtain ⟨y4, hy4⟩ : ∃ v, Z[4]? = some v := ⟨Z[4]'(by omega), Array.getElem?_eq_getElem (by omega)⟩
      have d2 := cell_of blkS hy2
      have d3 := cell_of blkS hy3
      have d4 := cell_of blkS hy4
      have fS : ∀ q, wS2.frozen? ⟨S, q, none⟩ = false := fun q => free_of blkS
      have nS6 : ¬ S = r6 := tag_ne blkS hIS.b6 (by decide)
      have n6S : ¬ r6 = S := fun e => nS6 e.symm
      have nSR : ¬ S = R := tag_ne blkS hrow (by decide)
      have nRS : ¬ R = S := fun e => nSR e.symm
      clear hI
      go_region
      obtain ⟨a1, c1, rfl⟩ := own_slice hIS.o1
      obtain ⟨a2, c2, rfl⟩ := own_slice hIS.o2
      generalize hTe : World.drew _ = wT
      have frT : Fr (· = S) wS2 wT := by rw [← hTe]; exact ((((Fr.refl (· = S) wS2).setCell (W := S) rfl _ _).setCell (W := S) rfl _ _).setCell (W := S) rfl _ _).drew
      have blkT : ∃ cs, wT.heap[S]? = some (.cells cs 50 (0, 0)) ∧ cs[3]? = some (.pointer (some ⟨lb 0, 0, none⟩)) := by
        rw [← hTe]
        refine ⟨_, heap_setCell_same (heap_setCell_same (heap_setCell_same blkS)), ?_⟩
        rw [getSet _ _ _ _ (by omega), getSetSame _ _ _ (by simp only [Array.size_setIfInBounds]; omega)]
      obtain ⟨csT, hblkT, hcs3⟩ := blkT
      have cS3 := cell_of hblkT hcs3
      have hIT : Inv w R r6 r7 r8 i lb (LCo cn i lb) i i (.slice a1 xs1.length c1) (.slice a2 xs2.length c2) xs1 xs2 wT := by
        refine hIS.other frT (fun k hk => by rw [hk]; exact hSlo) n6S (tag_ne hIS.b7 blkS (by decide)) (tag_ne hIS.b8 blkS (by decide)) nRS (fun g hg => ?_) (fun g hg => ?_) (fun j hj => ?_)
        · obtain ⟨cu, hh⟩ := own_tag hIS.o1 hg
          exact tag_ne hh blkS (by decide)
        · obtain ⟨cu, hh⟩ := own_tag hIS.o2 hg
          exact tag_ne hh blkS (by decide)
        · obtain ⟨_, cs, hc, _⟩ := hIS.leaf j hj
          exact tag_ne hc blkS (by decide)
      clear hTe frT hIS blkS d2 d3 d4 fS c6 cR0 hrow hrs hrr hblkT hcs3
      have hST : S < wT.heap.size := World.block_lt_of_cell? wT _ cS3
      have c7 := cell_of (j := 0) hIT.b7 rfl
      have l7 := lt_of_some hIT.b7
      have hxl := hE.len1
      have hxl2 : xs1.length < 100000 := by omega
      have HX : Hid (xs1.length = off cn i + 0 - 1) := hxl
      clear hxl
      have hmf : ∀ (fn : Fn) (first cap : Array Value) (w : World), (Instr.makeFunc fn first cap).run Yba.prog w = .ok (.func fn first cap) w := fun _ _ _ _ => rfl
      go_wp2_with fail
      refine (spans_make _ S).mono ?_
      rintro e w5 ⟨rfl, hw5⟩
      go_wp2_with fail
      rw [← hw5]
      obtain ⟨b5, s5, k0, k1, k2, k3⟩ := alloc4 wT (.cells #[.int .i64 xs1.length] 3) (.cells #[.int .i64 0] 3) (.cells #[.bool true] 4) (.cells #[.pointer (some ⟨S, 0, none⟩)] 30)
      rw [← hw5] at b5 s5 k0 k1 k2 k3
      clear hw5
      have hI5 := hIT.below b5
      refine (spans7 i lb cn h0 hcn (St7 w R r6 r7 r8 i lb cn _ _ xs1 xs2 wT.heap.size (wT.heap.size + 1) (wT.heap.size + 1 + 1) xs1.length) (· = wT.heap.size + 1) (fun _ => true) (fun t w h => h.1.chain) _ _ _ _ _ _
        (St7.call hcn hE rfl h512 hIT (by omega) (by omega) (by omega)) w5 (fun t a b h hb => h.keep hIT hb (by omega) (by omega) (by omega) (by omega)) (fun k hk => by omega) (wT.heap.size + 1 + 1 + 1) S (cell_of (j := 0) k3 rfl) (Below.cellAt b5 cS3) ⟨hI5, k1, cell_of (j := 0) k0 rfl, cell_of (j := 0) k2 rfl⟩).mono ?_
      rintro e w6 ⟨rfl, ⟨T, hSt, hT1, hT2, _, hT4⟩, fr6⟩
      have hTe : T - 1 = xs1.length := by
        have := HX.out
        by_cases h : T < off cn i
        · have := (hT4 h).2; cases this
        · omega
      obtain ⟨hI6, j6, t6, k6⟩ := hSt
      rw [hTe] at j6
      have j6c := cell_of (j := 0) j6 rfl
      have cS6 : w6.cell? ⟨S, 3, none⟩ = some (.pointer (some ⟨lb 0, 0, none⟩)) := fr6.cell (Below.cellAt b5 cS3) (by show ¬ S = _; omega)
      have hs6 : wT.heap.size + 4 ≤ w6.heap.size := by rw [← s5]; exact fr6.size
      have hst1 : (st : Int) < 256 := by omega
      clear hT4 hT1 hT2 hTe hI5 k0 k1 k2 k3 j6
      generalize hN : wT.heap.size = N at *
      go_wp2_with fail
      refine (spans_make _ S).mono ?_
      rintro e w7 ⟨rfl, hw7⟩
      go_wp2_with fail
      rw [← hw7]
      obtain ⟨b7, s7, k0, k1, k2⟩ := alloc3 w6 (.cells #[.int .i64 ((st : Int) + 1)] 3) (.cells #[.int .i64 0] 3) (.cells #[.pointer (some ⟨S, 0, none⟩)] 30)
      rw [← hw7] at b7 s7 k0 k1 k2
      clear hw7
      have hI7 := hI6.below b7
      have t7 := Below.cellAt b7 t6
      refine (spans8 i lb cn h0 hcn (St8 w R r6 r7 r8 i lb cn _ _ xs1 xs2 (w6.heap.size + 1) w6.heap.size (st + 1)) (· = w6.heap.size + 1) (fun t => decide (t < st + 1)) (fun t w h => h.1.chain) _ _
        (St8.call hcn h512 hIT (by omega) (by omega)) w7 (fun t a b h hb => h.keep hIT hb (by omega) (by omega) (by omega)) (fun k hk => by omega) (w6.heap.size + 1 + 1) S (cell_of (j := 0) k2 rfl) (Below.cellAt b7 cS6) ⟨hI7, k1, cell_of (j := 0) k0 rfl⟩).mono ?_
      rintro e w8 ⟨rfl, ⟨T2, hSt, hT1, hT2, hT3, hT4⟩, fr8⟩
      have hT := stops_at (tot := xs1.length) (by have := HX.out; omega) hT1 hT2 hT3 hT4
      obtain ⟨hI8, j8, m8⟩ := hSt
      rw [hT] at j8
      have t8 : w8.cell? ⟨N, 0, none⟩ = some (.int .i64 xs1.length) := fr8.cell t7 (by show ¬ N = _; omega)
      have hbel8 := hI8.bel
      clear hT hT1 hT2 hT3 hT4 hI7 hI8 hI6 hIT k0 k1 k2 b7 b5 t6 t7 j6c k6 c7 cS6 cS3 fr8 fr6
      generalize w6.heap.size = M at *
      by_cases hm : st + 1 < xs1.length
      · rw [if_pos hm] at j8
        have j8c := cell_of (j := 0) j8 rfl
        have hm' : ((st : Int) + 1) < (xs1.length : Int) := by omega
        go_wp2
        go_ret
        exact ⟨rfl, hbel8⟩
      · rw [if_neg hm] at j8
        have j8c := cell_of (j := 0) j8 rfl
        have hm' : ¬ ((st : Int) + 1) < (xs1.length : Int) := by omega
        go_wp2
        go_ret
        exact ⟨rfl, hbel8⟩
end Go.Proofs.Ybulkcftm
