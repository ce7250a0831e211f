import Derived.Test.YbulkcfriHold
namespace Go.Proofs.Ybulkcfri
open Go.ChangeShapes Go.WideShapes Go.ChangeAt Go.RowKit Go.MuLone
set_option maxRecDepth 100000 in
set_option maxHeartbeats 2000000 in
theorem hold_nil (M n : Nat) (hm : Value) (f : Value → Option Value) (a b : ByteArray) (ha : a.size ≤ maxLen) (hb : b.size ≤ maxLen) (w : World) (hM : w.heap[M]? = some (.cells (tCells 0 (.slice none 0 0) 0 hm) 96 (0, 0)))
    (hfk : f (.agg #[.string a, .string b]) = none) (hmap : (hm = .map none ∧ n = 0 ∧ f = fun _ => none) ∨ ∃ r, hm = .map (some r) ∧ MapIs Yba.prog 102 w r f n) :
    Calls Yba.prog 15 #[.pointer (some ⟨M, 0, none⟩), .string a, .string b] w fun e w' => e = .returned (.tuple #[]) ∧ Held1 M hm f n [] a b w w' := by
  obtain ⟨i9, hi9, hz90, hz91, hz92⟩ := info_parts zero49
  have lM := lt_of_some hM
  have c2 : w.cell? ⟨M, 2, none⟩ = some (.int .i32 0) := cell_of hM rfl
  have hlk := looks_none ha hb hfk hmap
  have hmc : ∀ r, hm = .map (some r) → r ≠ M ∧ r < w.heap.size := by
    intro r hr
    rcases hmap with ⟨e, _, _⟩ | ⟨r', e, hmp⟩
    · rw [hr] at e; cases e
    · rw [hr] at e; cases e
      refine ⟨fun e => ?_, hmp.lt⟩
      obtain ⟨es, ck, hh, _⟩ := hmp
      rw [e, hM] at hh; cases hh
  go_enter_defers Yba.func15, Yba.ntmps15
  go_wp2_with fail
  refine (lock_free muLib ⟨M, 2, none⟩ _ c2 (free_of hM)).mono ?_
  rintro e w' ⟨rfl, rfl⟩
  go_wp2
  generalize hW : World.alloc _ _ = W
  have hMW : W.heap[M]? = some (.cells (tCells 1 (.slice none 0 0) 0 hm) 96 (0, 0)) := by
    rw [← hW]
    exact heap_alloc_old (heap_setCell_same hM)
  have hNW : W.heap[w.heap.size]? = some (.cells #[.string a, .string b] 102 (0, 0)) := by
    rw [← hW, heap_alloc, if_pos (by rw [size_setCell])]
  have frW : Fr (· = M) w W := by rw [← hW]; exact ((Fr.refl (· = M) w).setCell (W := M) rfl _ _).alloc _
  clear hW c2
  have hsW := frW.size
  have lk : ∀ k, (Instr.lookup 94 hm (.agg #[.string a, .string b]) true).run Yba.prog (W.drewN k) = .ok (.tuple #[.slice none 0 0, .bool false]) (W.drewN k) := fun k => (hlk (W.drewN k) (fun r hr => (frW.block r (hmc r hr).2 (hmc r hr).1))).1
  have q0 := cell_of (j := 0) hNW rfl
  have q1 := cell_of (j := 1) hNW rfl
  have d5 : W.cell? ⟨M, 5, none⟩ = some (.slice none 0 0) := cell_of hMW rfl
  have d6 : W.cell? ⟨M, 6, none⟩ = some (.int .i64 0) := cell_of hMW rfl
  have d7 : W.cell? ⟨M, 7, none⟩ = some hm := cell_of hMW rfl
  go_quiet (fail)
  go_wp2
  go_quiet (fail)
  go_wp2
  generalize hW1 : World.drewN _ _ = W1
  have hb1 : Below W.heap.size W W1 := by rw [← hW1]; exact ⟨rfl, rfl, rfl, Nat.le_refl _, fun _ _ => rfl⟩
  have hN1 := (hb1.block _ (lt_of_some hNW)).trans hNW
  have hM1 := (hb1.block _ (lt_of_some hMW)).trans hMW
  clear hW1 lk q0 q1 d5 d6 d7
  have lN1 := lt_of_some hN1
  have lM1 := lt_of_some hM1
  go_loopg [9, 10, 43] 0 (fun _gk q r p wr => p = .int .i64 0 ∧ wr.ownsRow W1.heap.size 49 13 q 0 (rowOf []) ∧ wr.ownsRow W1.heap.size 49 13 r 0 (rowOf []) ∧ (∀ k, q.ownBlock = some k → r.ownBlock ≠ some k) ∧ Below W1.heap.size W1 wr)
  case atStart => exact ⟨rfl, World.ownsRow_nil _ _ _ _, World.ownsRow_nil _ _ _ _, (fun k e => by cases e), Below.refl _ _⟩
  case round =>
    obtain ⟨rfl, hoq, hor, hdis, hb2⟩ := hrel
    · have l0 : True := trivial
      have hMr := (hb2.block _ lM1).trans hM1
      have hNr := (hb2.block _ lN1).trans hN1
      have r7 : wr.cell? ⟨M, 7, none⟩ = some hm := cell_of hMr rfl
      have rf : ∀ q, wr.frozen? ⟨M, q, none⟩ = false := fun q => free_of hMr
      have frr : Fr (fun k => k = M) w wr := (frW.trans (Fr.of_below hb1 _)).trans (Fr.of_below hb2 _)
      have qnil : ∀ (w : World) (r : Option Nat), (binOp .eql 94 (.map r) (.map none)).run Yba.prog w = .ok (.bool r.isNone) w := fun w r => run_eql_map_nil w _ _ _ r Yba.underlying94
      obtain ⟨aq, cq, rfl⟩ := own_slice hoq
      obtain ⟨ar, cr, rfl⟩ := own_slice hor
      have hB1 : w.heap.size ≤ W1.heap.size := Nat.le_trans hsW hb1.size
      rcases hmap with ⟨rfl, hn0', hf0'⟩ | ⟨R, rfl, hmp⟩
      · have hn0 : Hid (n = 0) := hn0'
        have hf0 : Hid (f = fun _ => none) := hf0'
        clear hn0' hf0'
        have rc2 : (wr.alloc (.map #[] 0)).cell? ⟨M, 7, none⟩ = some (.map none) := cell_of (heap_alloc_old hMr) rfl
        have rf2 : (wr.alloc (.map #[] 0)).frozen? ⟨M, 7, none⟩ = false := free_of (heap_alloc_old hMr)
        have hmk : ∀ w, (Instr.makeMap 94 none).run Yba.prog w = .ok (.map (some w.heap.size)) (w.alloc (.map #[] 0)) := fun _ => rfl
        have hrne : ¬ wr.heap.size = M := fun e => by have := lt_of_some hMr; omega
        go_wp2
        generalize hR : wr.heap.size = R at *
        generalize hX : World.setCell (World.alloc wr _) _ _ = X
        have hMX : X.heap[M]? = some (.cells (tCells 1 (.slice none 0 0) 0 (.map (some R))) 96 (0, 0)) := by
          rw [← hX, heap_setCell_same (heap_alloc_old hMr)]; rfl
        have hmX : MapIs Yba.prog 102 X R f n := by
          rw [hf0.out, hn0.out]
          exact MapIs.empty 102 (clock := 0) (by rw [← hX, heap_setCell_other (by exact Ne.symm hrne), heap_alloc, if_pos hR.symm])
        have frwX : Fr (· = M) wr X := by rw [← hX]; exact ((Fr.refl (· = M) wr).alloc _).setCell (W := M) rfl _ _
        have hNX := (frwX.block _ (lt_of_some hNr) (by omega)).trans hNr
        have hoqX := own_fr hoq frwX (fun k hk => by obtain ⟨cu, hh⟩ := own_tag hoq hk; exact tag_ne hh hMr (by decide))
        have horX := own_fr hor frwX (fun k hk => by obtain ⟨cu, hh⟩ := own_tag hor hk; exact tag_ne hh hMr (by decide))
        have frX := frr.trans frwX
        have hRw : w.heap.size ≤ R := by rw [← hR]; exact frr.size
        clear hX hR r7 rf rf2 rc2
        have l5 : X.cell? ⟨M, 5, none⟩ = some (.slice none 0 0) := cell_of hMX rfl
        have l7 : X.cell? ⟨M, 7, none⟩ = some (.map (some R)) := cell_of hMX rfl
        have p0 := cell_of (j := 0) hNX rfl
        have p1 := cell_of (j := 1) hNX rfl
        obtain ⟨lit, hkey⟩ := key102 ha hb
        obtain ⟨w4, g4, s4, hent, hmp4, hgx4, hgr4, hs4, hst⟩ := (hmX.drew).entry law102 Yba.underlying94 (Yba.zeroValue33 _) hkey
        rw [hfk] at hent
        obtain ⟨w5, g5, hst5, hmp5, hg5k, hg5x, hgr5, hs5⟩ := hst w4 (.slice aq 0 cq) rfl
        rw [hfk] at hmp5
        clear hst
        have hRM : R ≠ M := fun e => by
          obtain ⟨es, ck, hh, _⟩ := hmX
          rw [e, hMX] at hh; cases hh
        have hM4 := (hgr4.block M (lt_of_some hMX) (fun e => hRM (Option.some.inj e).symm)).trans hMX
        have hM5 := (hgr5.block M (lt_of_some hM4) (fun e => hRM (Option.some.inj e).symm)).trans hM4
        have m5 : w5.cell? ⟨M, 5, none⟩ = some (.slice none 0 0) := cell_of hM5 rfl
        have m6 : w5.cell? ⟨M, 6, none⟩ = some (.int .i64 0) := cell_of hM5 rfl
        have mf : ∀ q, w5.frozen? ⟨M, q, none⟩ = false := fun q => free_of hM5
        have fr5 : Fr (· = R) X w5 := ((Fr.refl (· = R) X).drew.trans (Fr.of_grown hgr4 (fun k e => (Option.some.inj e).symm))).trans (Fr.of_grown hgr5 (fun k e => (Option.some.inj e).symm))
        have hneR : ∀ (v : Value) (q : List (ByteArray × ByteArray)), X.ownsRow W1.heap.size 49 13 v q.length (rowOf q) → w5.ownsRow W1.heap.size 49 13 v q.length (rowOf q) := fun v q ho => own_fr ho fr5 (fun k hk e => by
          obtain ⟨cu, hh⟩ := own_tag ho hk
          obtain ⟨es, ck, hh2, _⟩ := hmX
          rw [← e, hh] at hh2; cases hh2)
        have hoq5 := hneR _ [] hoqX
        have hor5 := hneR _ [] horX
        refine wp_region_noPanic ?_
        go_region_law (fail)
        all_goals
          refine NoPanic.normal ?_
          generalize hY : World.setCell (World.setCell w5 _ _) _ _ = Y
          have hMY : Y.heap[M]? = some (.cells (tCells 1 (.slice ar 0 cr) 0 (.map (some R))) 96 (0, 0)) := by
            rw [← hY, heap_setCell_same (heap_setCell_same hM5)]; rfl
          have frY : Fr (· = M) w5 Y := by rw [← hY]; exact ((Fr.refl (· = M) w5).setCell (W := M) rfl _ _).setCell (W := M) rfl _ _
          clear hY
          refine leaves_cons (f := 22) (args := #[.pointer (some ⟨M, 2, none⟩)]) (by simp) (by simp [go_sem]) ?_
          refine (unlock_deferred muLib ⟨M, 2, none⟩ .returning _ (cell_of hMY rfl) (free_of hMY)).mono ?_
          rintro e u' w'' ⟨rfl, rfl, rfl⟩
          have frZ : Fr (· = M) w5 (Y.setCell ⟨M, 2, none⟩ (.int .i32 0)) := frY.setCell (W := M) rfl _ _
          have hneM : ∀ (v : Value) (q : List (ByteArray × ByteArray)), w5.ownsRow W1.heap.size 49 13 v q.length (rowOf q) → (Y.setCell ⟨M, 2, none⟩ (.int .i32 0)).ownsRow w.heap.size 49 13 v q.length (rowOf q) := fun v q ho => own_base (own_fr ho frZ (fun k hk => by
            obtain ⟨cu, hh⟩ := own_tag ho hk
            exact tag_ne hh hM5 (by decide))) (by omega)
          refine ⟨_, results_none rfl _ _ _, rfl, .slice aq 0 cq, .slice ar 0 cr, R, g5, by rw [heap_setCell_same hMY]; rfl, ?_, ?_, hdis, ?_, hg5k, hg5x, .inr (by omega), ?_⟩
          · exact hneM _ [] hoq5
          · exact hneM _ [] hor5
          · exact hmp5.of_block (frZ.block R hmp5.lt hRM)
          · have f1 : Fr (fun k => k = M ∨ k = R) w X := frX.mono (fun k _ e => .inl e)
            have f2 : Fr (fun k => k = M ∨ k = R) w w5 := f1.trans (fr5.mono (fun k _ e => .inr e))
            have f3 : Fr (fun k => k = M ∨ k = R) w (Y.setCell ⟨M, 2, none⟩ (.int .i32 0)) := f2.trans (frZ.mono (fun k _ e => .inl e))
            exact f3.mono (fun k hk e => by rcases e with e | e; exact .inl e; omega)

      · go_wp2
        have hmX : MapIs Yba.prog 102 wr R f n := hmp.of_block (frr.block R hmp.lt (hmc R rfl).1)
        have hMX := hMr
        have hNX := hNr
        have hoqX := hoq
        have horX := hor
        have frX := frr
        clear r7 rf hMr hNr frr
        generalize hX : wr = X at *
        have l5 : X.cell? ⟨M, 5, none⟩ = some (.slice none 0 0) := cell_of hMX rfl
        have l7 : X.cell? ⟨M, 7, none⟩ = some (.map (some R)) := cell_of hMX rfl
        have p0 := cell_of (j := 0) hNX rfl
        have p1 := cell_of (j := 1) hNX rfl
        obtain ⟨lit, hkey⟩ := key102 ha hb
        obtain ⟨w4, g4, s4, hent, hmp4, hgx4, hgr4, hs4, hst⟩ := (hmX.drew).entry law102 Yba.underlying94 (Yba.zeroValue33 _) hkey
        rw [hfk] at hent
        obtain ⟨w5, g5, hst5, hmp5, hg5k, hg5x, hgr5, hs5⟩ := hst w4 (.slice aq 0 cq) rfl
        rw [hfk] at hmp5
        clear hst
        have hRM : R ≠ M := fun e => by
          obtain ⟨es, ck, hh, _⟩ := hmX
          rw [e, hMX] at hh; cases hh
        have hM4 := (hgr4.block M (lt_of_some hMX) (fun e => hRM (Option.some.inj e).symm)).trans hMX
        have hM5 := (hgr5.block M (lt_of_some hM4) (fun e => hRM (Option.some.inj e).symm)).trans hM4
        have m5 : w5.cell? ⟨M, 5, none⟩ = some (.slice none 0 0) := cell_of hM5 rfl
        have m6 : w5.cell? ⟨M, 6, none⟩ = some (.int .i64 0) := cell_of hM5 rfl
        have mf : ∀ q, w5.frozen? ⟨M, q, none⟩ = false := fun q => free_of hM5
        have fr5 : Fr (· = R) X w5 := ((Fr.refl (· = R) X).drew.trans (Fr.of_grown hgr4 (fun k e => (Option.some.inj e).symm))).trans (Fr.of_grown hgr5 (fun k e => (Option.some.inj e).symm))
        have hneR : ∀ (v : Value) (q : List (ByteArray × ByteArray)), X.ownsRow W1.heap.size 49 13 v q.length (rowOf q) → w5.ownsRow W1.heap.size 49 13 v q.length (rowOf q) := fun v q ho => own_fr ho fr5 (fun k hk e => by
          obtain ⟨cu, hh⟩ := own_tag ho hk
          obtain ⟨es, ck, hh2, _⟩ := hmX
          rw [← e, hh] at hh2; cases hh2)
        have hoq5 := hneR _ [] hoqX
        have hor5 := hneR _ [] horX
        refine wp_region_noPanic ?_
        go_region_law (fail)
        all_goals
          refine NoPanic.normal ?_
          generalize hY : World.setCell (World.setCell w5 _ _) _ _ = Y
          have hMY : Y.heap[M]? = some (.cells (tCells 1 (.slice ar 0 cr) 0 (.map (some R))) 96 (0, 0)) := by
            rw [← hY, heap_setCell_same (heap_setCell_same hM5)]; rfl
          have frY : Fr (· = M) w5 Y := by rw [← hY]; exact ((Fr.refl (· = M) w5).setCell (W := M) rfl _ _).setCell (W := M) rfl _ _
          clear hY
          refine leaves_cons (f := 22) (args := #[.pointer (some ⟨M, 2, none⟩)]) (by simp) (by simp [go_sem]) ?_
          refine (unlock_deferred muLib ⟨M, 2, none⟩ .returning _ (cell_of hMY rfl) (free_of hMY)).mono ?_
          rintro e u' w'' ⟨rfl, rfl, rfl⟩
          have frZ : Fr (· = M) w5 (Y.setCell ⟨M, 2, none⟩ (.int .i32 0)) := frY.setCell (W := M) rfl _ _
          have hneM : ∀ (v : Value) (q : List (ByteArray × ByteArray)), w5.ownsRow W1.heap.size 49 13 v q.length (rowOf q) → (Y.setCell ⟨M, 2, none⟩ (.int .i32 0)).ownsRow w.heap.size 49 13 v q.length (rowOf q) := fun v q ho => own_base (own_fr ho frZ (fun k hk => by
            obtain ⟨cu, hh⟩ := own_tag ho hk
            exact tag_ne hh hM5 (by decide))) (by omega)
          refine ⟨_, results_none rfl _ _ _, rfl, .slice aq 0 cq, .slice ar 0 cr, R, g5, by rw [heap_setCell_same hMY]; rfl, ?_, ?_, hdis, ?_, hg5k, hg5x, .inl rfl, ?_⟩
          · exact hneM _ [] hoq5
          · exact hneM _ [] hor5
          · exact hmp5.of_block (frZ.block R hmp5.lt hRM)
          · have f1 : Fr (fun k => k = M ∨ k = R) w X := frX.mono (fun k _ e => .inl e)
            have f2 : Fr (fun k => k = M ∨ k = R) w w5 := f1.trans (fr5.mono (fun k _ e => .inr e))
            have f3 : Fr (fun k => k = M ∨ k = R) w (Y.setCell ⟨M, 2, none⟩ (.int .i32 0)) := f2.trans (frZ.mono (fun k _ e => .inl e))
            exact f3.mono (fun k hk e => by rcases e with e | e; exact .inl e; exact .inr (by rw [e]))

end Go.Proofs.Ybulkcfri
