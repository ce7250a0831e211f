import Derived.Test.YbulkcfriAll4
namespace Go.Proofs.Ybulkcfri
open Go.ChangeShapes Go.WideShapes Go.ChangeAt Go.RowKit Go.MuLone
set_option maxRecDepth 100000 in
set_option maxHeartbeats 8000000 in
theorem law4_Ztf (a0 a1 : ByteArray) (up p : Int) (hup : (Lit.int .u64 up).wf = true) (hp : (Lit.int .u64 p).wf = true) (ad4 : Option Addr) (L c4 : Nat) (ad5 : Option Addr) (Lm c5 : Nat) (xs : Nat → Int) (bs : Nat → Bool) (prior : Nat) (hpr : prior < 256) (w : World) (h4 : IntsAt w ad4 L xs) (_h5 : BoolsAt w ad5 Lm bs) (hL : L ≤ 1024) (hLm : Lm ≤ 1024) (hLp : Hid (L = 0)) :
    Calls Yba.prog 4 #[.string a0, .string a1, .int .u64 up, .int .u64 p, .slice ad4 L c4, .slice ad5 Lm c5, .bool true, .bool false, .int .u8 prior] w fun e w' => e = .returned (.bool true) ∧ Below w.heap.size w w' := by
  have hmm := @run_makeMap Yba.prog
  have hLi : ¬ ((L : Int) > 1024) := by omega
  have hLmi : ¬ ((Lm : Int) > 1024) := by omega
  obtain ⟨i5, hi5, hz50, hz51, hz52⟩ := info_parts zero45
  obtain ⟨i7, hi7, hz70, hz71, hz72⟩ := info_parts zero27
  go_enter Yba.func4, Yba.ntmps4
  go_wp2_with fail
  refine (newSite_any a0 w).mono ?_
  rintro e w1 ⟨fn, q, S, r7, r17, r18, r19, rfl, hSw, hb1, hblk, hfour⟩
  have HB : Hid (w1.heap[S]? = some (.cells (siteCells a0 fn q r7 r17 r18 r19) 71 (0, 0))) := hblk
  have HF : Hid (Four w.heap.size w1 r7 r17 r18 r19) := hfour
  have HB1 : Hid (Below w.heap.size w w1) := hb1
  clear hblk hfour hb1
  obtain ⟨w2, hw2⟩ : ∃ w2, ((w1.alloc (.map #[] 0)).alloc (.map #[] 0)).alloc (.cells #[.int .u64 1, .int .u64 2, .string a1, .map (some w1.heap.size), .map (some (w1.heap.size + 1)), .slice none 0 0, .slice none 0 0, .slice none 0 0, .slice none 0 0, .pointer none] 37) = w2 := ⟨_, rfl⟩
  have hs2 : w2.heap.size = w1.heap.size + 3 := by rw [← hw2, size_alloc, size_alloc, size_alloc]
  have HW2 : Hid (((w1.alloc (.map #[] 0)).alloc (.map #[] 0)).alloc (.cells #[.int .u64 1, .int .u64 2, .string a1, .map (some w1.heap.size), .map (some (w1.heap.size + 1)), .slice none 0 0, .slice none 0 0, .slice none 0 0, .slice none 0 0, .pointer none] 37) = w2) := hw2
  go_wp2_with (at_make; refine wpList_make_own _ rfl _ _ 74 rfl w1.heap.size 45 i5 _ 2 Yba.underlying74 hi5 hz50 hz51 _ _ _ L rfl rfl rfl (by rw [hz52]; omega) (by unfold maxLen; omega) (by first | omega | (rw [hs2]; omega)) ?_; intro w3 hown hgrow)
  rw [hs2] at hown
  clear hw2
  obtain ⟨rb, hrb⟩ : ∃ rb, w1.heap.size + 1 = rb := ⟨_, rfl⟩
  obtain ⟨W, hWe⟩ : ∃ W, rb + 1 = W := ⟨_, rfl⟩
  obtain ⟨B, hBe⟩ : ∃ B, w.heap.size = B := ⟨_, rfl⟩
  have hsz1 : B ≤ w1.heap.size := by rw [← hBe]; exact HB1.out.size
  have hfrg : Fr (fun _ => False) w2 w3 := Fr.of_grown hgrow (fun k e => by cases e)
  have hbw2 : Below w1.heap.size w1 w2 := by rw [← HW2.out]; exact ((below_alloc _ _).trans ((below_alloc _ _).mono (by rw [size_alloc]; omega))).trans ((below_alloc _ _).mono (by rw [size_alloc, size_alloc]; omega))
  have hbw3 : Below w1.heap.size w1 w3 := hbw2.trans (hfrg.below (by rw [hs2]; omega) (fun _ h => h.elim))
  have hemp : ∀ {r : Nat} {K : TypeId}, Emp w1 r → MapIs Yba.prog K w3 r (fun _ => none) 0 := fun he => MapIs.empty _ (clock := 0) ((hbw3.block _ he.lt).trans he)
  have hL4 : L4 B S W r7 r17 r18 r19 rb a0 a1 fn q (.map (some w1.heap.size)) w w3 := by
    have hf := HF.out
    have hS1 := HB.out
    refine ⟨(hbw3.block S (lt_of_some hS1)).trans hS1, (hfrg.block W (by omega) id).trans (by rw [← HW2.out, heap_alloc, if_pos (by rw [size_alloc, size_alloc]; omega), ← hrb]; rfl), ?_, ?_, ?_⟩
    · rw [← hBe]; exact HB1.out.trans (hbw3.mono HB1.out.size)
    · have := hf.1; omega
    · have h1 := hf.2.1.lt; have h2 := hf.2.2.2.1.lt; have h3 := hf.2.2.2.2.1.lt
      obtain ⟨_, _, _, _, _, g1, g2, g3, g4, g5, g6⟩ := hf
      refine ⟨g2, g3, g6, ?_, ?_, ?_⟩ <;> omega
  have hE4 : E4 r7 r19 rb w3 := by
    have hf := HF.out
    refine ⟨hemp hf.2.1, hemp hf.2.2.2.2.1, MapIs.empty _ (clock := 0) ((hfrg.block rb (by omega) id).trans ?_)⟩
    rw [← HW2.out, heap_alloc, if_neg (by rw [size_alloc, size_alloc]; omega), heap_alloc, if_pos (by rw [size_alloc]; omega)]
  have hA0 : A18 B W r18 up (mkd xs bs Lm 0) 0 (fun _ => none) 0 w3 := ⟨hemp HF.out.2.2.2.1, fun x _ => ⟨0, World.ownsRow_nil _ _ _ _, rfl, Nat.le_refl _⟩, fun x y v v' g _ _ _ h1 => by cases h1⟩
  have hown3 : w3.ownsRow B 45 2 (.slice (some ⟨w1.heap.size + 3, 0, none⟩) 0 L) 0 (wsRow hStr ((List.range 0).map xs)) := own_base hown hsz1
  rw [hrb, hWe]
  clear HB HF HB1 HW2 hown hgrow hfrg hbw2 hbw3 hemp hs2 hSw
  generalize (Value.slice (some ⟨w1.heap.size + 3, 0, none⟩) 0 L) = vs0 at *
  go_loopg [21, 57] L (fun gk vs p wr => ∃ i : Nat, i ≤ L ∧ p = .int .i64 i ∧ L ≤ gk + i ∧ wr.ownsRow B 45 2 vs i (wsRow hStr ((List.range i).map xs)) ∧ ∃ f n, A18 B W r18 up (mkd xs bs Lm i) i f n wr ∧ L4 B S W r7 r17 r18 r19 rb a0 a1 fn q (.map (some w1.heap.size)) w wr ∧ E4 r7 r19 rb wr)
  case atStart => exact ⟨0, Nat.zero_le _, rfl, by omega, hown3, _, _, hA0, hL4, hE4⟩
  case round =>
    clear hown3 hA0 hL4 hE4
    obtain ⟨i, hile, rfl, hgk, hov, f, n, hA, hI, hE⟩ := hrel
    by_cases hilt : i < L
    · exact absurd hilt (by have := hLp.out; omega)
    · have hxx : True := trivial
      have hil : ¬ (i : Int) < L := by omega
      have hiL : i = L := by omega
      subst hiL
      clear hil hilt hile hgk
      obtain ⟨av, cv, hve⟩ := own_slice hov
      subst hve
      have hxl : ((List.range i).map xs).length = i := by simp
      have hov' : wr.ownsRow B 45 2 (.slice av i cv) ((List.range i).map xs).length (wsRow hStr ((List.range i).map xs)) := by rw [hxl]; exact hov
      have hxwf : ∀ y ∈ (List.range i).map xs, (Lit.int .u64 y).wf = true := by
        intro y hy
        simp at hy
        obtain ⟨j, hj, rfl⟩ := hy
        rcases h4 with h0 | ⟨b4, o4, _, _, hc4⟩
        · omega
        · exact (hc4 j hj).2
      obtain ⟨lit, hkeyu⟩ := key22 hup
      obtain ⟨lit2, hkeyp⟩ := key75 hup hp
      have s7 : wr.cell? ⟨S, 7, none⟩ = some (.map (some r7)) := cell_of hI.s rfl
      have s19 : wr.cell? ⟨S, 19, none⟩ = some (.map (some r19)) := cell_of hI.s rfl
      have h0z : i = 0 := hLp.out
      have hi0i : ¬ (i : Int) > 0 := by omega
      have frU : Fr (· = r7) wr wr := Fr.refl _ _
      have hs7 : wr.heap.size = wr.heap.size := rfl
      obtain ⟨X0, hX0⟩ : ∃ X0, wr.alloc (.cells #[.int .u64 up, .int .u64 p] 75) = X0 := ⟨_, rfl⟩
      have fr0 : Fr (· = r7) wr X0 := by rw [← hX0]; exact frU.alloc _
      have hI0 := hI.fr fr0 (fun k e => by rw [e]; exact ⟨hI.bs.2.2.1, Ne.symm (map_cells hE.a hI.s), Ne.symm (map_cells hE.a hI.k)⟩)
      have hA0 := hA.fr fr0 (fun e => hI.ne.1 e.symm) (fun k c e hh => map_cells hE.a hh e)
      have h00 : i = 0 := by omega
      have hm70 : ∃ g n, MapIs Yba.prog 22 X0 r7 g n ∧ X0.ownsRow B 45 2 ((g (.int .u64 up)).getD (.slice none 0 0)) ((List.range i).map xs).length (wsRow hStr ((List.range i).map xs)) := ⟨fun _ => none, 0, by rw [← hX0]; exact hE.a.alloc _, by rw [h00]; exact World.ownsRow_nil _ _ _ _⟩
      have hb0 : MapIs Yba.prog 75 X0 r19 (fun _ => none) 0 := hE.b.of_block (fr0.block r19 hE.b.lt (fun e => hI.ne.2.1 e.symm))
      have hc0 : MapIs Yba.prog 22 X0 rb (fun _ => none) 0 := hE.c.of_block (fr0.block rb hE.c.lt (fun e => hI.ne.2.2.2.1 e.symm))
      have hP0 : X0.heap[wr.heap.size]? = some (.cells #[.int .u64 up, .int .u64 p] 75 (0, 0)) := by rw [← hX0, heap_alloc, if_pos hs7.symm]
      have lP0 := lt_of_some hP0
      have lS0 := lt_of_some hI0.s
      have t19 : X0.cell? ⟨S, 19, none⟩ = some (.map (some r19)) := cell_of hI0.s rfl
      have p0 := cell_of (j := 0) hP0 rfl
      have p1 := cell_of (j := 1) hP0 rfl
      obtain ⟨w5, g5, hup5, hm5, hg5, hgx5, hgr5, hs5⟩ := ((hb0.alloc (.cells #[.pointer (some ⟨W, 0, none⟩)] 27)).drew).update law75 Yba.underlying64 hkeyp (.slice (some ⟨X0.heap.size, 0, none⟩) 1 1)
      go_wp2
      apply wp_once
      case h =>
        go_region_law (fail)
        all_goals exact ⟨rfl, rfl⟩
      clear hup5 t19 p0 p1
      have hO1 : ((X0.alloc (.cells #[.pointer (some ⟨W, 0, none⟩)] 27)).drew).heap.size = X0.heap.size + 1 := size_alloc _ _
      have hs5' : w5.heap.size = X0.heap.size + 1 := hs5.trans hO1
      have fr5 : Fr (fun k => k = r19 ∨ k = rb) X0 w5 := (((Fr.refl (fun k => k = r19 ∨ k = rb) X0).alloc _).drew).trans (Fr.of_grown hgr5 (fun k e => .inl (Option.some.inj e).symm))
      have hN5 : w5.ownsRow B 27 1 (.slice (some ⟨X0.heap.size, 0, none⟩) 1 1) 1 (reps W 1) := ⟨rfl, .inr ⟨X0.heap.size, 1, #[.pointer (some ⟨W, 0, none⟩)], rfl, by have := hI0.bs.1; omega, (hgr5.block X0.heap.size (by rw [hO1]; omega) (fun e => by have := Option.some.inj e; have := hb0.lt; omega)).trans (show (World.alloc X0 _).heap[X0.heap.size]? = _ from by rw [heap_alloc, if_pos rfl]), by omega, by unfold maxLen; omega, rfl, rfl⟩⟩
      have hm5' : MapIs Yba.prog 75 w5 r19 g5 1 := hm5
      have hc5 : MapIs Yba.prog 22 w5 rb (fun _ => none) 0 := hc0.of_block ((((Fr.refl (· = r19) X0).alloc _).drew).trans (Fr.of_grown hgr5 (fun k e => (Option.some.inj e).symm)) |>.block rb hc0.lt (fun e => hI.ne.2.2.2.2.2 e.symm))
      have hI5 := hI0.fr fr5 (fun k e => by rcases e with rfl | rfl; exact ⟨hI.bs.2.2.2.2.1, Ne.symm (map_cells hb0 hI0.s), Ne.symm (map_cells hb0 hI0.k)⟩; exact ⟨hI.bs.2.2.2.2.2, Ne.symm (map_cells hc0 hI0.s), Ne.symm (map_cells hc0 hI0.k)⟩)
      have fr6 : Fr (fun k => k = r19 ∨ k = rb) w5 w5 := Fr.refl _ _
      have frb6 : Fr (· = rb) w5 w5 := Fr.refl _ _
      have hs6' := hs5'
      have hm6' := hc5
      obtain ⟨X7, hX7⟩ : ∃ X7, w5.alloc (.cells #[.int .u64 up, .int .u64 p] 39) = X7 := ⟨_, rfl⟩
      go_wp2_with fail
      have fr7 : Fr (fun k => k = r19 ∨ k = rb) X0 X7 := by rw [← hX7]; exact (fr5.trans fr6).alloc _
      have frb7 : Fr (· = rb) w5 X7 := by rw [← hX7]; exact frb6.alloc _
      have hx7 : ∀ {k : Nat} {c : Array Value} {t : TypeId}, X0.heap[k]? = some (.cells c t (0, 0)) → ¬ (k = r19 ∨ k = rb) := fun hk hx => by
        rcases hx with e | e
        · exact map_cells hb0 hk e
        · exact map_cells hc0 hk e
      have own7 : ∀ {t : TypeId} {sz n : Nat} {v : Value} {l : List Value}, X0.ownsRow B t sz v n l → X7.ownsRow B t sz v n l := fun ho => own_fr ho fr7 (fun k hk => by obtain ⟨cu, h3⟩ := own_tag ho hk; exact hx7 h3)
      have hbf : Bf B S W r7 r17 r18 r19 rb wr.heap.size (X0.heap.size + 1) a0 a1 fn q (.map (some w1.heap.size)) up p ((List.range i).map xs) (mkd xs bs Lm i) true false prior w X7 := by
        obtain ⟨gg, nn, hq1, hq2⟩ := hm70
        have hn := hI.ne
        refine ⟨hI0.fr fr7 (fun k e => ?_), ⟨_, hm5'.of_block (frb7.block r19 hm5'.lt hn.2.2.2.2.2), ?_⟩, ⟨_, (show MapIs Yba.prog 22 X7 rb _ _ by rw [← hX7]; exact hm6'.alloc _), ?_⟩, ⟨gg, nn, hq1.of_block (fr7.block r7 hq1.lt (fun e => by rcases e with e | e; exact hn.2.1 e; exact hn.2.2.2.1 e)), own7 hq2⟩, ⟨f, n, hA0.map.of_block (fr7.block r18 hA0.map.lt (fun e => by rcases e with e | e; exact hn.2.2.1 e; exact hn.2.2.2.2.1 e)), fun y hy => ?_⟩, (fr7.block _ lP0 (hx7 hP0)).trans hP0, by rw [← hX7, heap_alloc, if_pos (by first | exact hs6'.symm | rfl)]⟩
        · rcases e with rfl | rfl
          · exact ⟨hI.bs.2.2.2.2.1, Ne.symm (map_cells hb0 hI0.s), Ne.symm (map_cells hb0 hI0.k)⟩
          · exact ⟨hI.bs.2.2.2.2.2, Ne.symm (map_cells hc0 hI0.s), Ne.symm (map_cells hc0 hI0.k)⟩
        · exact .inl ⟨rfl, _, hg5, own_fr hN5 frb7 (fun k hk e => by obtain ⟨cu, h3⟩ := own_tag hN5 hk; exact map_cells hc5 h3 e)⟩
        · rfl
        · obtain ⟨m, h1, h2, _⟩ := hA0.row y (hxwf y hy)
          exact ⟨hxwf y hy, m, own7 h1, h2⟩
      have H4 : Hid (IntsAt w ad4 i xs) := h4
      clear hx7 own7 hm70 hb0 hc0 hP0 hI0 hA0 hm5' hc5 hI5 hm6' hA hI hE s7 s19 hov hov' h4   hm5 hg5 hgx5 hgr5 hN5
      have HBS : Hid (B ≤ S ∧ True) := ⟨hbf.l.bs.1, trivial⟩
      refine (hbf.go hup hp hpr (by rw [hxl]; omega)).mono ?_
      rintro e w10 ⟨rfl, rv, cw, gv, fv, haf⟩
      clear hbf
      obtain rfl : gv = .slice none 0 0 := by
        rcases haf.gvs with ⟨_, h⟩ | ⟨h, _⟩
        · exact h
        · cases h
      have hq27 := neq27 ⟨W, 0, none⟩
      have hq39 := neq39 up p up p
      have hb39 : (up == up && p == p) = true := by simp
      rcases haf.fnd with ⟨hsh2, rfl⟩ | ⟨hsh2, gf, cf, rfl, ff0, ff1⟩
      · have HAF : Hid (Af B S W r7 r17 r18 r19 rb wr.heap.size (X0.heap.size + 1) a0 a1 fn q (.map (some w1.heap.size)) up p ((List.range i).map xs) (mkd xs bs Lm i) true false prior w rv cw (.slice none 0 0) (.slice none 0 0) w10) := haf
        have y7 : w10.cell? ⟨W, 7, none⟩ = some (.slice none 0 0) := cell_of haf.k rfl
        have y8 : w10.cell? ⟨W, 8, none⟩ = some (.slice none 0 0) := cell_of haf.k rfl
        have y6 : w10.cell? ⟨W, 6, none⟩ = some (.slice none 0 0) := cell_of haf.k rfl
        have y4 : w10.cell? ⟨W, 4, none⟩ = some (.map (some rb)) := cell_of haf.k rfl
        have x19 : w10.cell? ⟨S, 19, none⟩ = some (.map (some r19)) := cell_of haf.s rfl
        have pp0 := cell_of (j := 0) haf.pb rfl
        have pp1 := cell_of (j := 1) haf.pb rfl
        have qq0 := cell_of (j := 0) haf.qb rfl
        have qq1 := cell_of (j := 1) haf.qb rfl
        have hrc := haf.rc
        have lk19 := haf.lk19 hup hp
        have lkb := haf.lkb hup (v := .int .i64 0) (b := false) rfl rfl
        have hlen19 := haf.len19
        have hlenb := haf.lenb (n := 0) rfl

        clear haf
        go_wp2
        go_quiet (fail)
        go_wp2_with (refine wpList_len_run rfl _ 30 rfl (.map (some rb)) (.int .i64 0) rfl (hlenb _ _) ?_)
        go_ret
        exact ⟨rfl, hBe ▸ (HAF.out.bel.trans ⟨rfl, rfl, rfl, Nat.le_refl _, fun _ _ => rfl⟩)⟩

      · have y7 : w10.cell? ⟨W, 7, none⟩ = some (.slice none 0 0) := cell_of haf.k rfl
        have y8 : w10.cell? ⟨W, 8, none⟩ = some (.slice (some ⟨gf, 0, none⟩) 1 cf) := cell_of haf.k rfl
        have qq0 := cell_of (j := 0) haf.qb rfl
        have qq1 := cell_of (j := 1) haf.qb rfl
        have HA : Hid (Af B S W r7 r17 r18 r19 rb wr.heap.size (X0.heap.size + 1) a0 a1 fn q (.map (some w1.heap.size)) up p ((List.range i).map xs) (mkd xs bs Lm i) true false prior w rv cw (.slice none 0 0) (.slice (some ⟨gf, 0, none⟩) 1 cf) w10) := haf
        clear haf
        go_wp2
        go_quiet (fail)
        clear y7 y8 qq0 qq1 ff0 ff1
        generalize hW11 : World.drewN _ _ = w11
        have haf : Af B S W r7 r17 r18 r19 rb wr.heap.size (X0.heap.size + 1) a0 a1 fn q (.map (some w1.heap.size)) up p ((List.range i).map xs) (mkd xs bs Lm i) true false prior w rv cw (.slice none 0 0) (.slice (some ⟨gf, 0, none⟩) 1 cf) w11 := by rw [← hW11]; exact HA.out.same _
        have HAF : Hid (Af B S W r7 r17 r18 r19 rb wr.heap.size (X0.heap.size + 1) a0 a1 fn q (.map (some w1.heap.size)) up p ((List.range i).map xs) (mkd xs bs Lm i) true false prior w rv cw (.slice none 0 0) (.slice (some ⟨gf, 0, none⟩) 1 cf) w11) := haf
        have y7 : w11.cell? ⟨W, 7, none⟩ = some (.slice none 0 0) := cell_of haf.k rfl
        have y8 : w11.cell? ⟨W, 8, none⟩ = some (.slice (some ⟨gf, 0, none⟩) 1 cf) := cell_of haf.k rfl
        have y6 : w11.cell? ⟨W, 6, none⟩ = some (.slice none 0 0) := cell_of haf.k rfl
        have y4 : w11.cell? ⟨W, 4, none⟩ = some (.map (some rb)) := cell_of haf.k rfl
        have x19 : w11.cell? ⟨S, 19, none⟩ = some (.map (some r19)) := cell_of haf.s rfl
        have pp0 := cell_of (j := 0) haf.pb rfl
        have pp1 := cell_of (j := 1) haf.pb rfl
        have qq0 := cell_of (j := 0) haf.qb rfl
        have qq1 := cell_of (j := 1) haf.qb rfl
        have hrc := haf.rc
        have lk19 := haf.lk19 hup hp
        have lkb := haf.lkb hup (v := .int .i64 0) (b := false) rfl rfl
        have hlen19 := haf.len19
        have hlenb := haf.lenb (n := 0) rfl

        clear haf HA
        go_wp2
        go_quiet (fail)
        go_wp2_with (refine wpList_len_run rfl _ 30 rfl (.map (some rb)) (.int .i64 0) rfl (hlenb _ _) ?_)
        go_ret
        exact ⟨rfl, hBe ▸ (HAF.out.bel.trans ⟨rfl, rfl, rfl, Nat.le_refl _, fun _ _ => rfl⟩)⟩

end Go.Proofs.Ybulkcfri
