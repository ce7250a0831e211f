import Derived.Test.YbulkcfriAll4
namespace Go.Proofs.Ybulkcfri
open Go.ChangeShapes Go.WideShapes Go.ChangeAt Go.RowKit Go.MuLone
set_option maxRecDepth 100000 in
set_option maxHeartbeats 8000000 in
theorem law4_Pft (a0 a1 : ByteArray) (up p : Int) (hup : (Lit.int .u64 up).wf = true) (hp : (Lit.int .u64 p).wf = true) (ad4 : Option Addr) (L c4 : Nat) (ad5 : Option Addr) (Lm c5 : Nat) (xs : Nat → Int) (bs : Nat → Bool) (prior : Nat) (hpr : prior < 256) (w : World) (h4 : IntsAt w ad4 L xs) (h5 : BoolsAt w ad5 Lm bs) (hL : L ≤ 1024) (hLm : Lm ≤ 1024) (hLp : 0 < L) :
    Calls Yba.prog 4 #[.string a0, .string a1, .int .u64 up, .int .u64 p, .slice ad4 L c4, .slice ad5 Lm c5, .bool false, .bool true, .int .u8 prior] w fun e w' => e = .returned (.bool true) ∧ Below w.heap.size w w' := by
  have hmm := @run_makeMap Yba.prog
  have hLi : ¬ ((L : Int) > 1024) := by omega
  have hLmi : ¬ ((Lm : Int) > 1024) := by omega
  obtain ⟨i5, hi5, hz50, hz51, hz52⟩ := info_parts zero45
  obtain ⟨i7, hi7, hz70, hz71, hz72⟩ := info_parts zero27
  go_enter Yba.func4, Yba.ntmps4
  go_wp2_with fail
  refine (newSite_any a0 w).mono ?_
  rintro e w1 ⟨fn, q, S, r7, r17, r18, r19, rfl, hSw, hb1, hblk, hfour⟩
  have HB : Hid (w1.heap[S]? = some (.cells (siteCells a0 fn q r7 r17 r18 r19) 71 (0, 0))) := hblk
  have HF : Hid (Four w.heap.size w1 r7 r17 r18 r19) := hfour
  have HB1 : Hid (Below w.heap.size w w1) := hb1
  clear hblk hfour hb1
  obtain ⟨w2, hw2⟩ : ∃ w2, ((w1.alloc (.map #[] 0)).alloc (.map #[] 0)).alloc (.cells #[.int .u64 1, .int .u64 2, .string a1, .map (some w1.heap.size), .map (some (w1.heap.size + 1)), .slice none 0 0, .slice none 0 0, .slice none 0 0, .slice none 0 0, .pointer none] 37) = w2 := ⟨_, rfl⟩
  have hs2 : w2.heap.size = w1.heap.size + 3 := by rw [← hw2, size_alloc, size_alloc, size_alloc]
  have HW2 : Hid (((w1.alloc (.map #[] 0)).alloc (.map #[] 0)).alloc (.cells #[.int .u64 1, .int .u64 2, .string a1, .map (some w1.heap.size), .map (some (w1.heap.size + 1)), .slice none 0 0, .slice none 0 0, .slice none 0 0, .slice none 0 0, .pointer none] 37) = w2) := hw2
  go_wp2_with (at_make; refine wpList_make_own _ rfl _ _ 74 rfl w1.heap.size 45 i5 _ 2 Yba.underlying74 hi5 hz50 hz51 _ _ _ L rfl rfl rfl (by rw [hz52]; omega) (by unfold maxLen; omega) (by first | omega | (rw [hs2]; omega)) ?_; intro w3 hown hgrow)
  rw [hs2] at hown
  clear hw2
  obtain ⟨rb, hrb⟩ : ∃ rb, w1.heap.size + 1 = rb := ⟨_, rfl⟩
  obtain ⟨W, hWe⟩ : ∃ W, rb + 1 = W := ⟨_, rfl⟩
  obtain ⟨B, hBe⟩ : ∃ B, w.heap.size = B := ⟨_, rfl⟩
  have hsz1 : B ≤ w1.heap.size := by rw [← hBe]; exact HB1.out.size
  have hfrg : Fr (fun _ => False) w2 w3 := Fr.of_grown hgrow (fun k e => by cases e)
  have hbw2 : Below w1.heap.size w1 w2 := by rw [← HW2.out]; exact ((below_alloc _ _).trans ((below_alloc _ _).mono (by rw [size_alloc]; omega))).trans ((below_alloc _ _).mono (by rw [size_alloc, size_alloc]; omega))
  have hbw3 : Below w1.heap.size w1 w3 := hbw2.trans (hfrg.below (by rw [hs2]; omega) (fun _ h => h.elim))
  have hemp : ∀ {r : Nat} {K : TypeId}, Emp w1 r → MapIs Yba.prog K w3 r (fun _ => none) 0 := fun he => MapIs.empty _ (clock := 0) ((hbw3.block _ he.lt).trans he)
  have hL4 : L4 B S W r7 r17 r18 r19 rb a0 a1 fn q (.map (some w1.heap.size)) w w3 := by
    have hf := HF.out
    have hS1 := HB.out
    refine ⟨(hbw3.block S (lt_of_some hS1)).trans hS1, (hfrg.block W (by omega) id).trans (by rw [← HW2.out, heap_alloc, if_pos (by rw [size_alloc, size_alloc]; omega), ← hrb]; rfl), ?_, ?_, ?_⟩
    · rw [← hBe]; exact HB1.out.trans (hbw3.mono HB1.out.size)
    · have := hf.1; omega
    · have h1 := hf.2.1.lt; have h2 := hf.2.2.2.1.lt; have h3 := hf.2.2.2.2.1.lt
      obtain ⟨_, _, _, _, _, g1, g2, g3, g4, g5, g6⟩ := hf
      refine ⟨g2, g3, g6, ?_, ?_, ?_⟩ <;> omega
  have hE4 : E4 r7 r19 rb w3 := by
    have hf := HF.out
    refine ⟨hemp hf.2.1, hemp hf.2.2.2.2.1, MapIs.empty _ (clock := 0) ((hfrg.block rb (by omega) id).trans ?_)⟩
    rw [← HW2.out, heap_alloc, if_neg (by rw [size_alloc, size_alloc]; omega), heap_alloc, if_pos (by rw [size_alloc]; omega)]
  have hA0 : A18 B W r18 up (mkd xs bs Lm 0) 0 (fun _ => none) 0 w3 := ⟨hemp HF.out.2.2.2.1, fun x _ => ⟨0, World.ownsRow_nil _ _ _ _, rfl, Nat.le_refl _⟩, fun x y v v' g _ _ _ h1 => by cases h1⟩
  have hown3 : w3.ownsRow B 45 2 (.slice (some ⟨w1.heap.size + 3, 0, none⟩) 0 L) 0 (wsRow hStr ((List.range 0).map xs)) := own_base hown hsz1
  rw [hrb, hWe]
  clear HB HF HB1 HW2 hown hgrow hfrg hbw2 hbw3 hemp hs2 hSw
  generalize (Value.slice (some ⟨w1.heap.size + 3, 0, none⟩) 0 L) = vs0 at *
  go_loopg [21, 57] L (fun gk vs p wr => ∃ i : Nat, i ≤ L ∧ p = .int .i64 i ∧ L ≤ gk + i ∧ wr.ownsRow B 45 2 vs i (wsRow hStr ((List.range i).map xs)) ∧ ∃ f n, A18 B W r18 up (mkd xs bs Lm i) i f n wr ∧ L4 B S W r7 r17 r18 r19 rb a0 a1 fn q (.map (some w1.heap.size)) w wr ∧ E4 r7 r19 rb wr)
  case atStart => exact ⟨0, Nat.zero_le _, rfl, by omega, hown3, _, _, hA0, hL4, hE4⟩
  case round =>
    clear hown3 hA0 hL4 hE4
    obtain ⟨i, hile, rfl, hgk, hov, f, n, hA, hI, hE⟩ := hrel
    by_cases hilt : i < L
    · have hil : (i : Int) < L := by omega
      rcases h4 with h0 | ⟨b4, o4, rfl, hbl4, hc4⟩
      · omega
      obtain ⟨c0, hxw⟩ := hc4 i hilt
      have c0' := (World.cell?_of_block (a := ⟨b4, o4 + i, none⟩) (hI.bel.block b4 (hBe ▸ hbl4))).trans c0
      have hBr : B ≤ wr.heap.size := by have := lt_of_some hI.s; have := hI.bs.1; omega
      have hxs1 : wsRow hStr ((List.range (i + 1)).map xs) = wsRow hStr ((List.range i).map xs) ++ [.int .u64 (xs i), .string hStr] := by rw [List.range_succ]; simp [wsRow]
      have HXS : Hid (wsRow hStr ((List.range (i + 1)).map xs) = wsRow hStr ((List.range i).map xs) ++ [.int .u64 (xs i), .string hStr]) := hxs1
      have hms : ∀ y, mkd xs bs Lm (i + 1) y = (mkd xs bs Lm i y || (decide (i < Lm) && bs i && (xs i == y))) := mkd_succ xs bs Lm i
      have HMS : Hid (∀ y, mkd xs bs Lm (i + 1) y = (mkd xs bs Lm i y || (decide (i < Lm) && bs i && (xs i == y)))) := hms
      clear hxs1 hms c0 hc4
      generalize wsRow hStr ((List.range i).map xs) = wrow at *
      generalize xs i = x at *
      have hlt5 : ∀ (hb : i < Lm), ∃ b5 o5, ad5 = some ⟨b5, o5, none⟩ ∧ b5 < B ∧ w.cell? ⟨b5, o5 + i, none⟩ = some (.bool (bs i)) := fun hb => by
        rcases h5 with h0 | ⟨b5, o5, e5, hbl5, hc5⟩
        · omega
        · exact ⟨b5, o5, e5, hBe ▸ hbl5, hc5 i hb⟩
      by_cases hmk : i < Lm ∧ bs i = true
      · obtain ⟨hmL, hmb⟩ := hmk
        have hmLi : (i : Int) < Lm := by omega
        obtain ⟨b5, o5, rfl, hb5l, hm5⟩ := hlt5 hmL
        rw [hmb] at hm5
        have hvt : ∀ j, u21.ownBlock = some j → ∃ cu, wr.heap[j]? = some (.cells cu 45 (0, 0)) := fun j hj => own_tag hov hj
        have stepX : ∀ (X : World), (∃ o, (wr.alloc o).grownBy X u21.ownBlock) → Fr (fun j => u21.ownBlock = some j) wr X ∧ A18 B W r18 up (mkd xs bs Lm i) i f n X ∧ L4 B S W r7 r17 r18 r19 rb a0 a1 fn q (.map (some w1.heap.size)) w X ∧ E4 r7 r19 rb X := by
          rintro X ⟨o, hg⟩
          have frX : Fr (fun j => u21.ownBlock = some j) wr X := ((Fr.refl _ wr).alloc o).trans (Fr.of_grown hg (fun j e => e))
          refine ⟨frX, hA.fr frX (fun hx => ?_) (fun k c hx hh => ?_), hI.fr frX (fun k hx => ?_), hE.fr frX (fun hx => ?_) (fun hx => ?_) (fun hx => ?_)⟩
          · obtain ⟨cu, h3⟩ := hvt _ hx; exact map_cells hA.map h3 rfl
          · obtain ⟨cu, h3⟩ := hvt _ hx; rw [hh] at h3; cases h3
          · obtain ⟨cu, h3⟩ := hvt _ hx; exact ⟨own_B hov hx, tag_ne h3 hI.s (by decide), tag_ne h3 hI.k (by decide)⟩
          · obtain ⟨cu, h3⟩ := hvt _ hx; exact map_cells hE.a h3 rfl
          · obtain ⟨cu, h3⟩ := hvt _ hx; exact map_cells hE.b h3 rfl
          · obtain ⟨cu, h3⟩ := hvt _ hx; exact map_cells hE.c h3 rfl

        go_wp2_with (first | (at_builtin; refine wpList_append_own_at _ rfl _ _ 74 rfl B 45 i5 _ 2 24 Yba.underlying74 hi5 hz50 hz51 hz52 rfl (by decide) u21 i wrow rfl (own_fr hov ((Fr.refl (fun _ => False) wr).alloc _) (fun _ _ => id)) ⟨wr.heap.size, 0, none⟩ 1 1 [.int .u64 x, .string hStr] rfl rfl (newsAt (show (World.alloc wr _).heap[wr.heap.size]? = _ from by rw [heap_alloc, if_pos rfl] <;> rfl)) (by intro z hz; simp at hz; rcases hz with rfl | rfl <;> rfl) (by unfold maxLen; omega) (by omega) (by rw [size_alloc]; omega) ?_; intro vs' X ho hg hn hat; have hsX := stepX X ⟨_, hg⟩; have m5 : X.cell? ⟨b5, o5 + i, none⟩ = some (.bool true) := (World.cell?_of_block (a := ⟨b5, o5 + i, none⟩) (hsX.2.2.1.bel.block b5 hb5l)).trans hm5; obtain ⟨X2, hX2⟩ : ∃ X2, X.alloc (.cells #[.int .u64 x, .int .u64 up] 75) = X2 := ⟨_, rfl⟩))
        obtain ⟨frX, hAX, hIX, hEX⟩ := hsX
        have hb2 : Below X.heap.size X X2 := by rw [← hX2]; exact below_alloc _ _
        have hKX : X2.heap[X.heap.size]? = some (.cells #[.int .u64 x, .int .u64 up] 75 (0, 0)) := by rw [← hX2, heap_alloc, if_pos rfl]
        have hA2 := hAX.fr (Fr.of_below hb2 (fun _ => False)) id (fun _ _ h => h.elim)
        have hI2 := hIX.fr (Fr.of_below hb2 (fun _ => False)) (fun _ h => h.elim)
        have hE2 := hEX.fr (Fr.of_below hb2 (fun _ => False)) id id id
        have ho2 := own_fr ho (Fr.of_below hb2 (fun _ => False)) (fun _ _ => id)
        have s18 : X2.cell? ⟨S, 18, none⟩ = some (.map (some r18)) := cell_of hI2.s rfl
        have k0 := cell_of (j := 0) hKX rfl
        have k1 := cell_of (j := 1) hKX rfl
        obtain ⟨lit, hkey⟩ := key75 hxw hup
        obtain ⟨m, hrow, hmkx, hmi⟩ := hA2.row x hxw
        have lK := lt_of_some hKX
        have lS2 := lt_of_some hI2.s
        obtain ⟨wA, gA, sA, hentA, hmpA, hgxA, hgrA, hsA, hstA⟩ := ((hA2.map.alloc (.cells #[.pointer (some ⟨W, 0, none⟩)] 27)).drew).entry law75 Yba.underlying64 (Yba.zeroValue76 _) hkey
        have hfe : f (.agg #[.int .u64 x, .int .u64 up]) = f (pk x up) := rfl
        rw [hfe] at hentA
        generalize hv0 : (f (pk x up)).getD (.slice none 0 0) = v0 at *
        have HV0 : Hid ((f (pk x up)).getD (.slice none 0 0) = v0) := hv0
        clear hv0 m5 hX2
        obtain ⟨a0', c0'', hve0⟩ := own_slice hrow
        subst hve0
        have hO1 : ((X2.alloc (.cells #[.pointer (some ⟨W, 0, none⟩)] 27)).drew).heap.size = X2.heap.size + 1 := size_alloc _ _
        have hl18 := hA2.map.lt
        have hrowA : wA.ownsRow B 27 1 (.slice a0' m c0'') m (reps W m) := (own_fr hrow (((Fr.refl (fun _ => False) X2).alloc (.cells #[.pointer (some ⟨W, 0, none⟩)] 27)).drew) (fun _ _ => id)).kept hgrA (.inr (fun e => by
          obtain ⟨cu, h3⟩ := own_tag hrow e
          exact map_cells hA2.map h3 rfl))
        have hNA : wA.heap[X2.heap.size]? = some (.cells #[.pointer (some ⟨W, 0, none⟩)] 27 (0, 0)) := (hgrA.block X2.heap.size (by rw [hO1]; omega) (fun e => by have := Option.some.inj e; omega)).trans (show (World.alloc X2 _).heap[X2.heap.size]? = _ from by rw [heap_alloc, if_pos rfl])
        have hsA' : wA.heap.size = X2.heap.size + 1 := hsA.trans hO1
        have hBA : B ≤ wA.heap.size := by have := hI2.bs.1; omega
        have hmi2 : m ≤ i := hmi
        have hmeq : Hid (mkd xs bs Lm (i + 1) = (fun y => mkd xs bs Lm i y || y == x)) := by
          show _ = _
          funext y
          have h1 : decide (i < Lm) = true := by simpa using hmL
          rw [HMS.out y, hmb, h1, beq_sym x y]
          rfl
        go_region_law (refine step_append_own rfl _ _ 76 rfl B 27 i7 _ 1 8 Yba.underlying76 hi7 hz70 hz71 hz72 rfl (by decide) (.slice a0' m c0'') m (reps W m) rfl hrowA ⟨X2.heap.size, 0, none⟩ 1 1 [.pointer (some ⟨W, 0, none⟩)] rfl rfl (newsAt hNA) (by intro z hz; simp at hz; rw [hz]; rfl) (by unfold maxLen; omega) (by omega) hBA ?_; intro v' w5 ho5 hg5 hn5 hat5; have hr5 : w5.heap[r18]? = wA.heap[r18]? := hg5.block r18 (by omega) (fun e => by obtain ⟨cu, h3⟩ := own_tag hrow e.symm; exact map_cells hA2.map h3 rfl); obtain ⟨w6, g6, hst6, hmp6, hgk6, hgx6, hgr6, hs6⟩ := hstA w5 v' hr5; obtain ⟨av, cv, hve⟩ := own_slice ho5; subst hve)
        all_goals
          have fr5 : Fr (fun k => k = r18 ∨ (Value.slice a0' m c0'').ownBlock = some k) X2 w5 := ((((Fr.refl _ X2).alloc _).drew).trans (Fr.of_grown hgrA (fun k e => .inl (Option.some.inj e).symm))).trans (Fr.of_grown hg5 (fun k e => .inr e))
          have fr6 : Fr (fun k => k = r18 ∨ (Value.slice a0' m c0'').ownBlock = some k) X2 w6 := fr5.trans (Fr.of_grown hgr6 (fun k e => .inl (Option.some.inj e).symm))
          have h27 : ∀ k, (Value.slice a0' m c0'').ownBlock = some k → ∃ cu, X2.heap[k]? = some (.cells cu 27 (0, 0)) := fun k hk => own_tag hrow hk
          have hA6 : A18 B W r18 up (fun y => mkd xs bs Lm i y || y == x) (i + 1) g6 _ w6 := hA2.add hxw (by rw [HV0.out]; exact fr5) ho5 hmi2 (by
            rw [HV0.out]
            rcases hat5 with e | e
            · exact .inl e
            · exact .inr ⟨_, e, by omega⟩) (by obtain ⟨es, ck, h3, _⟩ := hmpA; exact ⟨es, ck, hr5.trans h3⟩) hmp6 hgk6 hgx6 hgr6
          have hI6 := hI2.fr fr6 (fun k hx => by
            rcases hx with e | e
            · rw [e]; exact ⟨hI2.bs.2.2.2.1, Ne.symm (map_cells hA2.map hI2.s), Ne.symm (map_cells hA2.map hI2.k)⟩
            · obtain ⟨cu, h3⟩ := h27 k e; exact ⟨own_B hrow e, tag_ne h3 hI2.s (by decide), tag_ne h3 hI2.k (by decide)⟩)
          have hE6 := hE2.fr fr6 (fun hx => hx.elim (fun e => hI2.ne.1 e) (fun e => by obtain ⟨cu, h3⟩ := h27 _ e; exact map_cells hE2.a h3 rfl)) (fun hx => hx.elim (fun e => hI2.ne.2.2.1 e.symm) (fun e => by obtain ⟨cu, h3⟩ := h27 _ e; exact map_cells hE2.b h3 rfl)) (fun hx => hx.elim (fun e => hI2.ne.2.2.2.2.1 e.symm) (fun e => by obtain ⟨cu, h3⟩ := h27 _ e; exact map_cells hE2.c h3 rfl))
          have ho6 := own_fr ho2 fr6 (fun k hk hx => by
            obtain ⟨cu, h4⟩ := own_tag ho2 hk
            rcases hx with e | e
            · exact map_cells hA2.map h4 e
            · obtain ⟨cu2, h3⟩ := h27 k e; rw [h4] at h3; cases h3)
          have HA6 : Hid _ := hA6
          have HI6 : Hid _ := hI6
          have HE6 : Hid _ := hE6
          have HO6 : Hid _ := ho6
          clear hA6 hI6 hE6 ho6 fr5 fr6 hst6 hmp6 hgk6 hgx6 hgr6 hs6 hr5 ho5 hg5 hn5 hat5 hentA hmpA hgxA hgrA hsA hstA
          go_wp2
          go_roundg (gk - 1)
          case measure => omega
          case rel =>
            have hh6 := HA6.out
            rw [← hmeq.out] at hh6
            exact ⟨i + 1, hilt, by go_num, by omega, by rw [HXS.out]; exact HO6.out, g6, _, hh6, HI6.out, HE6.out⟩

      · have hz0 : Hid ((decide (i < Lm) && bs i) = false) := by
          show _ = _
          by_cases h1 : i < Lm
          · have : bs i = false := by
              cases hb : bs i with
              | true => exact absurd ⟨h1, hb⟩ hmk
              | false => rfl
            simp [this]
          · simp [h1]
        have hvt : ∀ j, u21.ownBlock = some j → ∃ cu, wr.heap[j]? = some (.cells cu 45 (0, 0)) := fun j hj => own_tag hov hj
        have stepX : ∀ (X : World), (∃ o, (wr.alloc o).grownBy X u21.ownBlock) → Fr (fun j => u21.ownBlock = some j) wr X ∧ A18 B W r18 up (mkd xs bs Lm i) i f n X ∧ L4 B S W r7 r17 r18 r19 rb a0 a1 fn q (.map (some w1.heap.size)) w X ∧ E4 r7 r19 rb X := by
          rintro X ⟨o, hg⟩
          have frX : Fr (fun j => u21.ownBlock = some j) wr X := ((Fr.refl _ wr).alloc o).trans (Fr.of_grown hg (fun j e => e))
          refine ⟨frX, hA.fr frX (fun hx => ?_) (fun k c hx hh => ?_), hI.fr frX (fun k hx => ?_), hE.fr frX (fun hx => ?_) (fun hx => ?_) (fun hx => ?_)⟩
          · obtain ⟨cu, h3⟩ := hvt _ hx; exact map_cells hA.map h3 rfl
          · obtain ⟨cu, h3⟩ := hvt _ hx; rw [hh] at h3; cases h3
          · obtain ⟨cu, h3⟩ := hvt _ hx; exact ⟨own_B hov hx, tag_ne h3 hI.s (by decide), tag_ne h3 hI.k (by decide)⟩
          · obtain ⟨cu, h3⟩ := hvt _ hx; exact map_cells hE.a h3 rfl
          · obtain ⟨cu, h3⟩ := hvt _ hx; exact map_cells hE.b h3 rfl
          · obtain ⟨cu, h3⟩ := hvt _ hx; exact map_cells hE.c h3 rfl

        by_cases h1 : i < Lm
        · have hmLi : (i : Int) < Lm := by omega
          obtain ⟨b5, o5, rfl, hb5l, hm5⟩ := hlt5 h1
          have hbf : bs i = false := by
            cases hb : bs i with
            | true => exact absurd ⟨h1, hb⟩ hmk
            | false => rfl
          rw [hbf] at hm5
          go_wp2_with (at_builtin; refine wpList_append_own_at _ rfl _ _ 74 rfl B 45 i5 _ 2 24 Yba.underlying74 hi5 hz50 hz51 hz52 rfl (by decide) u21 i wrow rfl (own_fr hov ((Fr.refl (fun _ => False) wr).alloc _) (fun _ _ => id)) ⟨wr.heap.size, 0, none⟩ 1 1 [.int .u64 x, .string hStr] rfl rfl (newsAt (show (World.alloc wr _).heap[wr.heap.size]? = _ from by rw [heap_alloc, if_pos rfl] <;> rfl)) (by intro z hz; simp at hz; rcases hz with rfl | rfl <;> rfl) (by unfold maxLen; omega) (by omega) (by rw [size_alloc]; omega) ?_; intro vs' X ho hg hn hat; have hsX := stepX X ⟨_, hg⟩; have m5 : X.cell? ⟨b5, o5 + i, none⟩ = some (.bool false) := (World.cell?_of_block (a := ⟨b5, o5 + i, none⟩) (hsX.2.2.1.bel.block b5 hb5l)).trans hm5)
          go_roundg (gk - 1)
          case measure => omega
          case rel =>
            obtain ⟨_, hA', hI', hE'⟩ := stepX X ⟨_, hg⟩
            have hmeq : mkd xs bs Lm (i + 1) = mkd xs bs Lm i := funext fun y => by rw [HMS.out y, hz0.out]; simp
            refine ⟨i + 1, hilt, by go_num, by omega, by rw [HXS.out]; exact ho, f, n, ?_, hI', hE'⟩
            rw [hmeq]; exact hA'.mono (by omega)

        · have hmLi : ¬ (i : Int) < Lm := by omega
          go_wp2_with (at_builtin; refine wpList_append_own_at _ rfl _ _ 74 rfl B 45 i5 _ 2 24 Yba.underlying74 hi5 hz50 hz51 hz52 rfl (by decide) u21 i wrow rfl (own_fr hov ((Fr.refl (fun _ => False) wr).alloc _) (fun _ _ => id)) ⟨wr.heap.size, 0, none⟩ 1 1 [.int .u64 x, .string hStr] rfl rfl (newsAt (show (World.alloc wr _).heap[wr.heap.size]? = _ from by rw [heap_alloc, if_pos rfl] <;> rfl)) (by intro z hz; simp at hz; rcases hz with rfl | rfl <;> rfl) (by unfold maxLen; omega) (by omega) (by rw [size_alloc]; omega) ?_; intro vs' X ho hg hn hat)
          go_roundg (gk - 1)
          case measure => omega
          case rel =>
            obtain ⟨_, hA', hI', hE'⟩ := stepX X ⟨_, hg⟩
            have hmeq : mkd xs bs Lm (i + 1) = mkd xs bs Lm i := funext fun y => by rw [HMS.out y, hz0.out]; simp
            refine ⟨i + 1, hilt, by go_num, by omega, by rw [HXS.out]; exact ho, f, n, ?_, hI', hE'⟩
            rw [hmeq]; exact hA'.mono (by omega)

    · have hxx : True := trivial
      have hil : ¬ (i : Int) < L := by omega
      have hiL : i = L := by omega
      subst hiL
      clear hil hilt hile hgk
      obtain ⟨av, cv, hve⟩ := own_slice hov
      subst hve
      have hxl : ((List.range i).map xs).length = i := by simp
      have hov' : wr.ownsRow B 45 2 (.slice av i cv) ((List.range i).map xs).length (wsRow hStr ((List.range i).map xs)) := by rw [hxl]; exact hov
      have hxwf : ∀ y ∈ (List.range i).map xs, (Lit.int .u64 y).wf = true := by
        intro y hy
        simp at hy
        obtain ⟨j, hj, rfl⟩ := hy
        rcases h4 with h0 | ⟨b4, o4, _, _, hc4⟩
        · omega
        · exact (hc4 j hj).2
      obtain ⟨lit, hkeyu⟩ := key22 hup
      obtain ⟨lit2, hkeyp⟩ := key75 hup hp
      have s7 : wr.cell? ⟨S, 7, none⟩ = some (.map (some r7)) := cell_of hI.s rfl
      have s19 : wr.cell? ⟨S, 19, none⟩ = some (.map (some r19)) := cell_of hI.s rfl
      have hi0 : 0 < i := hLp
      have hi0i : (i : Int) > 0 := by omega
      obtain ⟨wU, g7, hupd, hm7, hg7, hgx7, hgr7, hs7⟩ := hE.a.update law22 Yba.underlying55 hkeyu (.slice av i cv)
      have frU : Fr (· = r7) wr wU := Fr.of_grown hgr7 (fun k e => (Option.some.inj e).symm)
      obtain ⟨X0, hX0⟩ : ∃ X0, wU.alloc (.cells #[.int .u64 up, .int .u64 p] 75) = X0 := ⟨_, rfl⟩
      have fr0 : Fr (· = r7) wr X0 := by rw [← hX0]; exact frU.alloc _
      have hI0 := hI.fr fr0 (fun k e => by rw [e]; exact ⟨hI.bs.2.2.1, Ne.symm (map_cells hE.a hI.s), Ne.symm (map_cells hE.a hI.k)⟩)
      have hA0 := hA.fr fr0 (fun e => hI.ne.1 e.symm) (fun k c e hh => map_cells hE.a hh e)
      have hm70 : ∃ g n, MapIs Yba.prog 22 X0 r7 g n ∧ X0.ownsRow B 45 2 ((g (.int .u64 up)).getD (.slice none 0 0)) ((List.range i).map xs).length (wsRow hStr ((List.range i).map xs)) := ⟨g7, 0 + 1, by rw [← hX0]; exact hm7.alloc _, by rw [hg7]; exact own_fr hov' fr0 (fun k hk e => by obtain ⟨cu, h3⟩ := own_tag hov' hk; exact map_cells hE.a h3 e)⟩
      have hb0 : MapIs Yba.prog 75 X0 r19 (fun _ => none) 0 := hE.b.of_block (fr0.block r19 hE.b.lt (fun e => hI.ne.2.1 e.symm))
      have hc0 : MapIs Yba.prog 22 X0 rb (fun _ => none) 0 := hE.c.of_block (fr0.block rb hE.c.lt (fun e => hI.ne.2.2.2.1 e.symm))
      have hP0 : X0.heap[wr.heap.size]? = some (.cells #[.int .u64 up, .int .u64 p] 75 (0, 0)) := by rw [← hX0, heap_alloc, if_pos hs7.symm]
      have lP0 := lt_of_some hP0
      have lS0 := lt_of_some hI0.s
      have fr5 : Fr (fun k => k = r19 ∨ k = rb) X0 X0 := Fr.refl _ _
      have hc5 := hc0
      have hm5' := hb0
      have hs5' : X0.heap.size = X0.heap.size := rfl
      have hI5 := hI0.fr fr5 (fun k e => by rcases e with rfl | rfl; exact ⟨hI.bs.2.2.2.2.1, Ne.symm (map_cells hb0 hI0.s), Ne.symm (map_cells hb0 hI0.k)⟩; exact ⟨hI.bs.2.2.2.2.2, Ne.symm (map_cells hc0 hI0.s), Ne.symm (map_cells hc0 hI0.k)⟩)
      have t4 : X0.cell? ⟨W, 4, none⟩ = some (.map (some rb)) := cell_of hI5.k rfl
      obtain ⟨w6, g6, hup6, hm6, hg6, hgx6, hgr6, hs6⟩ := hc5.update law22 Yba.underlying30 hkeyu (.int .i64 prior)
      have hs6' : w6.heap.size = X0.heap.size := hs6.trans hs5'
      have fr6 : Fr (fun k => k = r19 ∨ k = rb) X0 w6 := Fr.of_grown hgr6 (fun k e => .inr (Option.some.inj e).symm)
      have frb6 : Fr (· = rb) X0 w6 := Fr.of_grown hgr6 (fun k e => (Option.some.inj e).symm)
      have hm6' : MapIs Yba.prog 22 w6 rb g6 1 := hm6
      obtain ⟨X7, hX7⟩ : ∃ X7, w6.alloc (.cells #[.int .u64 up, .int .u64 p] 39) = X7 := ⟨_, rfl⟩
      go_wp2_with fail
      have fr7 : Fr (fun k => k = r19 ∨ k = rb) X0 X7 := by rw [← hX7]; exact (fr5.trans fr6).alloc _
      have frb7 : Fr (· = rb) X0 X7 := by rw [← hX7]; exact frb6.alloc _
      have hx7 : ∀ {k : Nat} {c : Array Value} {t : TypeId}, X0.heap[k]? = some (.cells c t (0, 0)) → ¬ (k = r19 ∨ k = rb) := fun hk hx => by
        rcases hx with e | e
        · exact map_cells hb0 hk e
        · exact map_cells hc0 hk e
      have own7 : ∀ {t : TypeId} {sz n : Nat} {v : Value} {l : List Value}, X0.ownsRow B t sz v n l → X7.ownsRow B t sz v n l := fun ho => own_fr ho fr7 (fun k hk => by obtain ⟨cu, h3⟩ := own_tag ho hk; exact hx7 h3)
      have hbf : Bf B S W r7 r17 r18 r19 rb wr.heap.size (X0.heap.size) a0 a1 fn q (.map (some w1.heap.size)) up p ((List.range i).map xs) (mkd xs bs Lm i) false true prior w X7 := by
        obtain ⟨gg, nn, hq1, hq2⟩ := hm70
        have hn := hI.ne
        refine ⟨hI0.fr fr7 (fun k e => ?_), ⟨_, hm5'.of_block (frb7.block r19 hm5'.lt hn.2.2.2.2.2), ?_⟩, ⟨_, (show MapIs Yba.prog 22 X7 rb _ _ by rw [← hX7]; exact hm6'.alloc _), ?_⟩, ⟨gg, nn, hq1.of_block (fr7.block r7 hq1.lt (fun e => by rcases e with e | e; exact hn.2.1 e; exact hn.2.2.2.1 e)), own7 hq2⟩, ⟨f, n, hA0.map.of_block (fr7.block r18 hA0.map.lt (fun e => by rcases e with e | e; exact hn.2.2.1 e; exact hn.2.2.2.2.1 e)), fun y hy => ?_⟩, (fr7.block _ lP0 (hx7 hP0)).trans hP0, by rw [← hX7, heap_alloc, if_pos (by first | exact hs6'.symm | rfl)]⟩
        · rcases e with rfl | rfl
          · exact ⟨hI.bs.2.2.2.2.1, Ne.symm (map_cells hb0 hI0.s), Ne.symm (map_cells hb0 hI0.k)⟩
          · exact ⟨hI.bs.2.2.2.2.2, Ne.symm (map_cells hc0 hI0.s), Ne.symm (map_cells hc0 hI0.k)⟩
        · exact .inr ⟨rfl, rfl⟩
        · exact hg6
        · obtain ⟨m, h1, h2, _⟩ := hA0.row y (hxwf y hy)
          exact ⟨hxwf y hy, m, own7 h1, h2⟩
      have H4 : Hid (IntsAt w ad4 i xs) := h4
      clear hx7 own7 hm70 hb0 hc0 hP0 hI0 hA0 hm5' hc5 hI5 hm6' hA hI hE s7 s19 hov hov' h4 hupd hm7 hg7 hgx7 hgr7 hup6 t4 hm6 hg6 hgx6 hgr6 
      have HBS : Hid (B ≤ S ∧ True) := ⟨hbf.l.bs.1, trivial⟩
      refine (hbf.go hup hp hpr (by rw [hxl]; omega)).mono ?_
      rintro e w10 ⟨rfl, rv, cw, gv, fv, haf⟩
      clear hbf
      obtain rfl : gv = .slice none 0 0 := by
        rcases haf.gvs with ⟨_, h⟩ | ⟨h, _⟩
        · exact h
        · cases h
      have hq27 := neq27 ⟨W, 0, none⟩
      have hq39 := neq39 up p up p
      have hb39 : (up == up && p == p) = true := by simp
      rcases haf.fnd with ⟨hsh2, rfl⟩ | ⟨hsh2, gf, cf, rfl, ff0, ff1⟩
      · have HAF : Hid (Af B S W r7 r17 r18 r19 rb wr.heap.size (X0.heap.size) a0 a1 fn q (.map (some w1.heap.size)) up p ((List.range i).map xs) (mkd xs bs Lm i) false true prior w rv cw (.slice none 0 0) (.slice none 0 0) w10) := haf
        have y7 : w10.cell? ⟨W, 7, none⟩ = some (.slice none 0 0) := cell_of haf.k rfl
        have y8 : w10.cell? ⟨W, 8, none⟩ = some (.slice none 0 0) := cell_of haf.k rfl
        have y6 : w10.cell? ⟨W, 6, none⟩ = some (.slice none 0 0) := cell_of haf.k rfl
        have y4 : w10.cell? ⟨W, 4, none⟩ = some (.map (some rb)) := cell_of haf.k rfl
        have x19 : w10.cell? ⟨S, 19, none⟩ = some (.map (some r19)) := cell_of haf.s rfl
        have pp0 := cell_of (j := 0) haf.pb rfl
        have pp1 := cell_of (j := 1) haf.pb rfl
        have qq0 := cell_of (j := 0) haf.qb rfl
        have qq1 := cell_of (j := 1) haf.qb rfl
        have hrc := haf.rc
        have lk19 := haf.lk19 hup hp
        have lkb := haf.lkb hup (v := .int .i64 (prior + 1)) (b := true) rfl rfl
        have hlen19 := haf.len19
        have hlenb := haf.lenb (n := 1) rfl

        clear haf
        go_wp2
        go_quiet (fail)
        go_wp2_with (refine wpList_len_run rfl _ 30 rfl (.map (some rb)) (.int .i64 1) rfl (hlenb _ _) ?_)
        go_ret
        exact ⟨rfl, hBe ▸ (HAF.out.bel.trans ⟨rfl, rfl, rfl, Nat.le_refl _, fun _ _ => rfl⟩)⟩

      · have y7 : w10.cell? ⟨W, 7, none⟩ = some (.slice none 0 0) := cell_of haf.k rfl
        have y8 : w10.cell? ⟨W, 8, none⟩ = some (.slice (some ⟨gf, 0, none⟩) 1 cf) := cell_of haf.k rfl
        have qq0 := cell_of (j := 0) haf.qb rfl
        have qq1 := cell_of (j := 1) haf.qb rfl
        have HA : Hid (Af B S W r7 r17 r18 r19 rb wr.heap.size (X0.heap.size) a0 a1 fn q (.map (some w1.heap.size)) up p ((List.range i).map xs) (mkd xs bs Lm i) false true prior w rv cw (.slice none 0 0) (.slice (some ⟨gf, 0, none⟩) 1 cf) w10) := haf
        clear haf
        go_wp2
        go_quiet (fail)
        clear y7 y8 qq0 qq1 ff0 ff1
        generalize hW11 : World.drewN _ _ = w11
        have haf : Af B S W r7 r17 r18 r19 rb wr.heap.size (X0.heap.size) a0 a1 fn q (.map (some w1.heap.size)) up p ((List.range i).map xs) (mkd xs bs Lm i) false true prior w rv cw (.slice none 0 0) (.slice (some ⟨gf, 0, none⟩) 1 cf) w11 := by rw [← hW11]; exact HA.out.same _
        have HAF : Hid (Af B S W r7 r17 r18 r19 rb wr.heap.size (X0.heap.size) a0 a1 fn q (.map (some w1.heap.size)) up p ((List.range i).map xs) (mkd xs bs Lm i) false true prior w rv cw (.slice none 0 0) (.slice (some ⟨gf, 0, none⟩) 1 cf) w11) := haf
        have y7 : w11.cell? ⟨W, 7, none⟩ = some (.slice none 0 0) := cell_of haf.k rfl
        have y8 : w11.cell? ⟨W, 8, none⟩ = some (.slice (some ⟨gf, 0, none⟩) 1 cf) := cell_of haf.k rfl
        have y6 : w11.cell? ⟨W, 6, none⟩ = some (.slice none 0 0) := cell_of haf.k rfl
        have y4 : w11.cell? ⟨W, 4, none⟩ = some (.map (some rb)) := cell_of haf.k rfl
        have x19 : w11.cell? ⟨S, 19, none⟩ = some (.map (some r19)) := cell_of haf.s rfl
        have pp0 := cell_of (j := 0) haf.pb rfl
        have pp1 := cell_of (j := 1) haf.pb rfl
        have qq0 := cell_of (j := 0) haf.qb rfl
        have qq1 := cell_of (j := 1) haf.qb rfl
        have hrc := haf.rc
        have lk19 := haf.lk19 hup hp
        have lkb := haf.lkb hup (v := .int .i64 (prior + 1)) (b := true) rfl rfl
        have hlen19 := haf.len19
        have hlenb := haf.lenb (n := 1) rfl

        clear haf HA
        go_wp2
        go_quiet (fail)
        go_wp2_with (refine wpList_len_run rfl _ 30 rfl (.map (some rb)) (.int .i64 1) rfl (hlenb _ _) ?_)
        go_ret
        exact ⟨rfl, hBe ▸ (HAF.out.bel.trans ⟨rfl, rfl, rfl, Nat.le_refl _, fun _ _ => rfl⟩)⟩

end Go.Proofs.Ybulkcfri
