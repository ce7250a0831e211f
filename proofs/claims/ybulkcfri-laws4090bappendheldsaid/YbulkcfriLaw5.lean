import Derived.Test.YbulkcfriShows
namespace Go.Proofs.Ybulkcfri
open Go.ChangeShapes Go.WideShapes Go.ChangeAt Go.RowKit Go.MuLone
/-- The two arrays behind i rounds. -/
structure L1 (B A9 A10 i : Nat) (fl : List Pr) (H : Nat → Option (List Pr)) (n : Nat) (vp : Value) (w wr : World) : Prop where
  ts : TS B B 1024 wr fl H n
  arr : ∃ cs, wr.heap[A9]? = some (.cells cs 97 (0, 0)) ∧ cs.size = 9 ∧ ∀ j, j < i → ∃ u, cs[j]? = some u ∧ wr.ownsRow B 108 2 u ((H j).getD []).length (pairRow ((H j).getD [])) ∧ u ≠ .slice none 0 0 ∧ ∀ g, u.ownBlock = some g → vp.ownBlock ≠ some g
  flags : ∃ ds, wr.heap[A10]? = some (.cells ds 98 (0, 0)) ∧ ds.size = 9 ∧ ∀ j, j < i → ds[j]? = some (.bool (H j).isSome)
  pre : wr.ownsRow B 108 2 vp fl.length (pairRow fl)
  bel : Below B w wr
  b9 : B ≤ A9
  b10 : B ≤ A10
theorem L1.step {B A9 A10 i : Nat} {fl : List Pr} {H : Nat → Option (List Pr)} {n : Nat} {vp : Value} {w wr W3 : World} {u : Value} {C : Nat} (hI : L1 B A9 A10 i fl H n vp w wr) (hb : Below wr.heap.size wr W3) (hC : wr.heap.size ≤ C) (hou : W3.ownsRow C 108 2 u ((H i).getD []).length (pairRow ((H i).getD []))) (hun : u ≠ .slice none 0 0) (hi : i < 9) (hA : A9 ≠ A10) :
    L1 B A9 A10 (i + 1) fl H n vp w ((W3.setCell ⟨A9, i, none⟩ u).setCell ⟨A10, i, none⟩ (.bool (H i).isSome)) := by
  obtain ⟨cs, hcs, hcsz, hcsj⟩ := hI.arr
  obtain ⟨ds, hds, hdsz, hdsj⟩ := hI.flags
  have hcs3 := (hb.block A9 (lt_of_some hcs)).trans hcs
  have hds3 := (hb.block A10 (lt_of_some hds)).trans hds
  have fr : Fr (fun k => k = A9 ∨ k = A10) W3 ((W3.setCell ⟨A9, i, none⟩ u).setCell ⟨A10, i, none⟩ (.bool (H i).isSome)) := ((Fr.refl _ W3).setCell (W := A9) (.inl rfl) _ _).setCell (W := A10) (.inr rfl) _ _
  have frr : Fr (fun k => k = A9 ∨ k = A10) wr ((W3.setCell ⟨A9, i, none⟩ u).setCell ⟨A10, i, none⟩ (.bool (H i).isSome)) := (Fr.of_below hb _).trans fr
  have row : ∀ {W : World} {D m : Nat} {v : Value} {xs : List Value}, W.ownsRow D 108 2 v m xs → Fr (fun k => k = A9 ∨ k = A10) W ((W3.setCell ⟨A9, i, none⟩ u).setCell ⟨A10, i, none⟩ (.bool (H i).isSome)) → (∃ c, W.heap[A9]? = some (.cells c 97 (0, 0))) → (∃ c, W.heap[A10]? = some (.cells c 98 (0, 0))) → ((W3.setCell ⟨A9, i, none⟩ u).setCell ⟨A10, i, none⟩ (.bool (H i).isSome)).ownsRow D 108 2 v m xs := fun ho hf h9 h10 => own_fr ho hf (fun g hg e => by
    obtain ⟨cu, hh⟩ := own_tag ho hg
    obtain ⟨c9, h9⟩ := h9
    obtain ⟨c10, h10⟩ := h10
    rcases e with e | e
    · exact tag_ne hh h9 (by decide) e
    · exact tag_ne hh h10 (by decide) e)
  have hA9' : ((W3.setCell ⟨A9, i, none⟩ u).setCell ⟨A10, i, none⟩ (.bool (H i).isSome)).heap[A9]? = some (.cells (cs.setIfInBounds i u) 97 (0, 0)) := by
    rw [heap_setCell_other (by exact Ne.symm hA), heap_setCell_same hcs3]
  have hA10' : ((W3.setCell ⟨A9, i, none⟩ u).setCell ⟨A10, i, none⟩ (.bool (H i).isSome)).heap[A10]? = some (.cells (ds.setIfInBounds i (.bool (H i).isSome)) 98 (0, 0)) :=
    heap_setCell_same ((heap_setCell_other (by exact hA)).trans hds3)
  refine ⟨hI.ts.keep frr (fun k e => ?_), ⟨_, hA9', by simpa using hcsz, fun j hj => ?_⟩, ⟨_, hA10', by simpa using hdsz, fun j hj => ?_⟩, row hI.pre frr ⟨_, hcs⟩ ⟨_, hds⟩, hI.bel.trans (frr.below (by have := lt_of_some hcs; have := hI.b9; omega) (fun k e => by rcases e with rfl | rfl; exact hI.b9; exact hI.b10)), hI.b9, hI.b10⟩
  · rcases e with rfl | rfl
    · exact not_foot hcs (by decide) (by decide)
    · exact not_foot hds (by decide) (by decide)
  · by_cases e : j = i
    · subst e
      refine ⟨u, by simp [hcsz, hi], own_base (row hou fr ⟨_, hcs3⟩ ⟨_, hds3⟩) (by have := lt_of_some hcs; have := hI.b9; omega), hun, fun g hg e2 => ?_⟩
      have h1 := own_B hou hg
      have h2 := own_lt hI.pre e2
      omega
    · obtain ⟨u', h1, h2, h3, h4⟩ := hcsj j (by omega)
      exact ⟨u', by rw [Array.getElem?_setIfInBounds, if_neg (by omega)]; exact h1, row h2 frr ⟨_, hcs⟩ ⟨_, hds⟩, h3, h4⟩
  · by_cases e : j = i
    · subst e; simp [hdsz, hi]
    · rw [Array.getElem?_setIfInBounds, if_neg (by omega)]; exact hdsj j (by omega)
structure L2 (B A9 A10 : Nat) (fl : List Pr) (H H' : Nat → Option (List Pr)) (n : Nat) (w wr : World) : Prop where
  ts : TS B B 1024 wr fl H' n
  arr : ∃ cs, wr.heap[A9]? = some (.cells cs 97 (0, 0)) ∧ ∀ j, j < 9 → ∃ u, cs[j]? = some u ∧ wr.ownsRow B 108 2 u ((H j).getD []).length (pairRow ((H j).getD []))
  flags : ∃ ds, wr.heap[A10]? = some (.cells ds 98 (0, 0)) ∧ ∀ j, j < 9 → ds[j]? = some (.bool (H j).isSome)
  bel : Below B w wr
  b9 : B ≤ A9
theorem L2.below {B A9 A10 : Nat} {fl : List Pr} {H H' : Nat → Option (List Pr)} {n : Nat} {w wr wr' : World} (h : L2 B A9 A10 fl H H' n w wr) (hb : Below wr.heap.size wr wr') : L2 B A9 A10 fl H H' n w wr' := by
  obtain ⟨cs, hcs, hcj⟩ := h.arr
  obtain ⟨ds, hds, hdj⟩ := h.flags
  have hB : B ≤ wr.heap.size := by have := lt_of_some hcs; have := h.b9; omega
  exact ⟨h.ts.below hb, ⟨cs, (hb.block _ (lt_of_some hcs)).trans hcs, fun j hj => by
    obtain ⟨u, h1, h2⟩ := hcj j hj
    exact ⟨u, h1, own_fr h2 (Fr.of_below hb (fun _ => False)) (fun _ _ => id)⟩⟩, ⟨ds, (hb.block _ (lt_of_some hds)).trans hds, hdj⟩, h.bel.trans (hb.mono hB), h.b9⟩
theorem TS.pos {B M N : Nat} {w : World} {fl : List Pr} {H : Nat → Option (List Pr)} {n k : Nat} {q : List Pr} (h : TS B M N w fl H n) (hk : k < 9) (hq : H k = some q) : 1 ≤ n := by
  obtain ⟨v, h0, hm, ms, V, f, ht, hd⟩ := h
  have hkey := ht.key k hk
  rw [hq] at hkey
  rcases ht.map with ⟨_, _, e⟩ | ⟨r, _, _, hmp⟩
  · rw [e] at hkey; cases hkey
  · exact MapIs.pos hmp hkey
theorem pairRow_one (ms : List Pr) : ∀ u ∈ pairRow ms, u.oneCell' = true := by
  intro u hu
  simp only [pairRow, List.mem_flatMap] at hu
  obtain ⟨p, _, hp⟩ := hu
  exact pair_one _ _ u hp
theorem pairRow_append (a b : List Pr) : pairRow (a ++ b) = pairRow a ++ pairRow b := by simp [pairRow]
set_option maxRecDepth 100000 in
set_option maxHeartbeats 8000000 in
theorem law5_walk (ad : Option Addr) (L c : Nat) (d1 d2 d3 : Nat → Nat) (x y : Nat) (hx : x < 256) (hy : y < 256) (w : World) (hops : OpsAt w ad L d1 d2 d3) (hL : L ≤ 1024) :
    Calls Yba.prog 5 #[.slice ad L c, .int .u8 x, .int .u8 y] w fun e w' => e = .returned (.bool true) ∧ Below w.heap.size w w' := by
  have hLi : ¬ ((L : Int) > 1024) := by omega
  go_enter Yba.func5, Yba.ntmps5
  go_wp2_with fail
  refine (build_any ad L c d1 d2 d3 w hops hL).mono ?_
  rintro e W0 ⟨rfl, fl, H, n, ht, hk⟩
  obtain ⟨v, h, hm, ms, V, f, ht0, hd⟩ := ht
  have hbel : Below w.heap.size w W0 := hk.below (Nat.le_refl _)
  obtain ⟨B, hBe⟩ : ∃ B, w.heap.size = B := ⟨_, rfl⟩
  rw [hBe] at ht0 hbel ⊢
  obtain ⟨a5, c5, rfl⟩ := own_slice ht0.own
  obtain ⟨_, hLc, ad2, hadE, hsh, hshl⟩ := own_cut ht0.own ht0.hh
  have d5 : W0.cell? ⟨B, 5, none⟩ = some (.slice a5 ms.length c5) := cell_of ht0.blk rfl
  have d6 : W0.cell? ⟨B, 6, none⟩ = some (.int .i64 h) := cell_of ht0.blk rfl
  have hhh := ht0.hh
  have hi0 : (0 : Int) ≤ (h : Int) := by omega
  have hi2 : (h : Int) ≤ ms.length := by omega
  have hbd := ht0.bound
  have hfll : fl.length ≤ 1024 := by rw [← hd, List.length_drop]; omega
  rw [hd] at hsh
  go_wp2
  go_region_held3 (fun w' => w'.cell? ⟨B, 5, none⟩ = some (.slice a5 ms.length c5) ∧ w'.cell? ⟨B, 6, none⟩ = some (.int .i64 h))
    (first | go_keep | (exact ⟨(World.cell?_of_block (a := ⟨B, 5, none⟩) (hb2.block B (lt_of_some ht0.blk))).trans d5, (World.cell?_of_block (a := ⟨B, 6, none⟩) (hb2.block B (lt_of_some ht0.blk))).trans d6⟩))
    ((go_at_call 10; refine (pairs_any _ fl W0.drew hsh hshl (by omega)).mono ?_; rintro e W1 ⟨vp, rfl, hop, hnp, hb2⟩))
  replace hb2 : Below W0.heap.size W0 W1 := ⟨hb2.os, hb2.tape, hb2.output, hb2.size, hb2.block⟩
  have ht1 : TS B B 1024 W1 fl H n := TS.below ⟨_, _, _, _, _, _, ht0, hd⟩ hb2
  have hlB : B ≤ W0.heap.size := Nat.le_trans (Nat.le_of_lt (lt_of_some ht0.blk)) (Nat.le_refl _)
  have hpre := own_base (B' := B) hop hlB
  have hbel1 : Below B w W1 := hbel.trans (hb2.mono hlB)
  have hlp : ∀ g, vp.ownBlock = some g → g < W1.heap.size := fun g hg => own_lt hop hg
  clear hsh hshl d5 d6 hi0 hi2 hbd ht0 hd hadE hLc hhh hop hnp hb2 hbel hk
  have hs1 : B ≤ W1.heap.size := by have := hbel1.size; omega
  go_wp2
  obtain ⟨A9, hA9⟩ : ∃ A9, W1.heap.size = A9 := ⟨_, rfl⟩
  generalize hW2 : World.alloc _ _ = W2
  rw [hA9]
  have hI0 : L1 B A9 (A9 + 1) 0 fl H n vp w W2 := by
    rw [← hW2]
    have hb3 : Below W1.heap.size W1 ((W1.alloc (.cells #[.slice none 0 0, .slice none 0 0, .slice none 0 0, .slice none 0 0, .slice none 0 0, .slice none 0 0, .slice none 0 0, .slice none 0 0, .slice none 0 0] 97)).alloc (.cells #[.bool false, .bool false, .bool false, .bool false, .bool false, .bool false, .bool false, .bool false, .bool false] 98)) := (below_alloc _ _).trans ((below_alloc _ _).mono (by rw [size_alloc]; omega))
    refine ⟨ht1.below hb3, ⟨#[.slice none 0 0, .slice none 0 0, .slice none 0 0, .slice none 0 0, .slice none 0 0, .slice none 0 0, .slice none 0 0, .slice none 0 0, .slice none 0 0], ?_, rfl, fun j hj => by omega⟩, ⟨#[.bool false, .bool false, .bool false, .bool false, .bool false, .bool false, .bool false, .bool false, .bool false], ?_, rfl, fun j hj => by omega⟩, own_fr hpre (Fr.of_below hb3 (fun _ => False)) (fun _ _ => id), hbel1.trans (hb3.mono (by omega)), by omega, by omega⟩
    · rw [heap_alloc, if_neg (by rw [size_alloc]; omega), heap_alloc, if_pos hA9.symm]
    · rw [heap_alloc, if_pos (by rw [size_alloc]; omega)]
  clear hW2 ht1 hpre hbel1
  go_loopg [11] 9 (fun gk p wr => ∃ i : Nat, i ≤ 9 ∧ p = .int .i64 i ∧ 9 ≤ gk + i ∧ L1 B A9 (A9 + 1) i fl H n vp w wr)
  case atStart => exact ⟨0, Nat.zero_le _, rfl, by omega, hI0⟩
  case round =>
    clear hI0
    obtain ⟨i, hile, rfl, hgk, hI⟩ := hrel
    by_cases hilt : i < 9
    · have hil : (i : Int) < 9 := by omega
      obtain ⟨v, h, hm, ms, V, f, ht0, hd⟩ := hI.ts
      have d7 : wr.cell? ⟨B, 7, none⟩ = some hm := cell_of ht0.blk rfl
      have lk := fun k => (ht0.look hilt (wr.drewN k) (fun r _ => rfl)).1
      have hq3 : i / 3 < 256 := by omega
      have hr3 : i % 3 < 256 := by omega
      go_wp2
      go_quiet (refine Calls.quiet_of_same (name_any _ (by assumption) _))
      obtain ⟨hsh, hshl, hhl⟩ := ht0.heldShows hilt
      generalize ((H i).map fun _ => V i).getD (.slice none 0 0) = qv at *
      generalize hWq : World.drewN _ _ = Wq
      have hbq : Below wr.heap.size wr Wq := by rw [← hWq]; exact ⟨rfl, rfl, rfl, Nat.le_refl _, fun _ _ => rfl⟩
      clear hWq lk d7
      go_wp2_with fail
      refine (pairs_any qv ((H i).getD []) Wq (hsh.of_below hbq hshl) (fun g hg => Nat.lt_of_lt_of_le (hshl g hg) hbq.size) (by omega)).mono ?_
      rintro e W3 ⟨u, rfl, hou, hun, hb3⟩
      have hb13 : Below wr.heap.size wr W3 := hbq.trans (hb3.mono hbq.size)
      obtain ⟨cs, hcs, hcsz, hcsj⟩ := hI.arr
      obtain ⟨ds, hds, hdsz, hdsj⟩ := hI.flags
      have hcs3 := (hb13.block A9 (lt_of_some hcs)).trans hcs
      have hds3 := (hb13.block (A9 + 1) (lt_of_some hds)).trans hds
      obtain ⟨ci, hci⟩ : ∃ ci, cs[i]? = some ci := ⟨_, Array.getElem?_eq_getElem (by omega)⟩
      obtain ⟨di, hdi⟩ : ∃ di, ds[i]? = some di := ⟨_, Array.getElem?_eq_getElem (by omega)⟩
      have s1 : W3.cell? ⟨A9, i, none⟩ = some ci := cell_of hcs3 hci
      have s2 : W3.cell? ⟨A9 + 1, i, none⟩ = some di := cell_of hds3 hdi
      have s3 : ∀ q, W3.frozen? ⟨A9, q, none⟩ = false := fun q => free_of hcs3
      have s4 : ∀ q, W3.frozen? ⟨A9 + 1, q, none⟩ = false := fun q => free_of hds3
      obtain ⟨au, cu, hue⟩ := own_slice hou
      subst hue
      go_wp2
      go_roundg (gk - 1)
      case measure => omega
      case rel => exact ⟨i + 1, hilt, by go_num, by omega, hI.step hb13 hbq.size hou hun hilt (by omega)⟩
    · have hil : ¬ (i : Int) < 9 := by omega
      have hi9 : i = 9 := by omega
      subst hi9
      clear hil hilt hile hgk
      obtain ⟨v, h, hm, ms, V, f, ht0, hd⟩ := hI.ts
      have d7 : wr.cell? ⟨B, 7, none⟩ = some hm := cell_of ht0.blk rfl
      have hlen := ht0.len
      have hk9 := ix_lt x y
      have hkI : (x : Int) % 3 * 3 + (y : Int) % 3 = (ix x y : Nat) := by unfold ix; omega
      go_wp2_with (refine wpList_len_run rfl _ 94 rfl hm (.int .i64 n) rfl (hlen _) ?_)
      refine (name_any x hx _).mono ?_
      rintro e w' ⟨rfl, rfl⟩
      go_wp2_with fail
      refine (name_any y hy _).mono ?_
      rintro e w' ⟨rfl, rfl⟩
      go_wp2_with fail
      refine (rel_ts x y hI.ts (by omega)).mono ?_
      rintro e W4 ⟨rfl, ht4, hk4⟩
      obtain ⟨hsq, _, hql⟩ := ht0.heldShows hk9
      clear hsq
      obtain ⟨cs, hcs, hcsz, hcsj⟩ := hI.arr
      obtain ⟨ds, hds, hdsz, hdsj⟩ := hI.flags
      have hA910 : A9 ≠ A9 + 1 := by omega
      have hcs4 := hk4.blk hcs (by decide) (by decide)
      have hds4 := hk4.blk hds (by decide) (by decide)
      have hpre4 := hk4.own hI.pre (by decide) (by decide)
      have hbel4 : Below B w W4 := hI.bel.trans (hk4.below (by have := lt_of_some hcs; have := hI.b9; omega))
      have hrow4 : ∀ j, j < 9 → ∃ u, cs[j]? = some u ∧ W4.ownsRow B 108 2 u ((H j).getD []).length (pairRow ((H j).getD [])) ∧ u ≠ .slice none 0 0 ∧ ∀ g, u.ownBlock = some g → vp.ownBlock ≠ some g := fun j hj => by
        obtain ⟨u, h1, h2, h3, h4⟩ := hcsj j hj
        exact ⟨u, h1, hk4.own h2 (by decide) (by decide), h3, h4⟩
      have hb9 := hI.b9
      have hnpos : ∀ q, H (ix x y) = some q → 1 ≤ n := fun q hq => hI.ts.pos hk9 hq
      have hnub : n ≤ 1024 := ht0.nb
      clear hcsj hcs hds hk4 ht0 hd hlen d7 hI hlp
      generalize hke : ix x y = k at *
      generalize hqe : (H k).getD [] = q at *
      obtain ⟨uk, hcsk, houk, hunk, hdk⟩ := hrow4 k hk9
      rw [hqe] at houk
      rcases houk.2 with ⟨e, _⟩ | ⟨gu, cu, curu, rfl, _⟩
      · exact absurd e hunk
      have l1 : W4.cell? ⟨A9, k, none⟩ = some (.slice (some ⟨gu, 0, none⟩) q.length cu) := cell_of hcs4 hcsk
      have hk9i : (k : Int) < 9 := by omega
      obtain ⟨i8, hi8, hz80, hz81, hz82⟩ := info_parts zero108
      have hlW4 : B ≤ W4.heap.size := by have := lt_of_some hcs4; omega
      clear hkI
      go_wp2_with (at_builtin; refine wpList_append_own_at _ rfl _ _ 84 rfl B 108 i8 _ 2 32 Yba.underlying84 hi8 hz80 hz81 hz82 rfl (by decide) vp fl.length (pairRow fl) rfl hpre4 ⟨gu, 0, none⟩ q.length cu (pairRow q) rfl (pairRow_length q) houk.cells' (pairRow_one q) (by unfold maxLen; omega) (by omega) hlW4 ?_; intro vw W5 how hgw hnw hatw)
      have fr5 : Fr (fun j => vp.ownBlock = some j) W4 W5 := Fr.of_grown hgw (fun j e => e)
      have hvt : ∀ j, vp.ownBlock = some j → ∃ cu, W4.heap[j]? = some (.cells cu 108 (0, 0)) := fun j hj => own_tag hpre4 hj
      have hI2 : L2 B A9 (A9 + 1) (fl ++ q) H (upd H k none) (if (H k).isSome then n - 1 else n) w W5 := by
        refine ⟨ht4.keep fr5 (fun j hj => ?_), ⟨cs, (fr5.block A9 (lt_of_some hcs4) (fun hj => ?_)).trans hcs4, fun j hj => ?_⟩, ⟨ds, (fr5.block (A9 + 1) (lt_of_some hds4) (fun hj => ?_)).trans hds4, hdsj⟩, hbel4.trans (fr5.below hlW4 (fun j hj => own_B hpre4 hj)), hb9⟩
        · obtain ⟨c9, h9⟩ := hvt j hj
          exact not_foot h9 (by decide) (by decide)
        · obtain ⟨c9, h9⟩ := hvt _ hj
          exact tag_ne h9 hcs4 (by decide) rfl
        · obtain ⟨u, h1, h2, _, h4⟩ := hrow4 j hj
          exact ⟨u, h1, own_fr h2 fr5 (fun g hg e => h4 g hg e)⟩
        · obtain ⟨c9, h9⟩ := hvt _ hj
          exact tag_ne h9 hds4 (by decide) rfl
      clear hrow4 hcsk houk hunk hdk l1 ht4 hpre4 hbel4 hdsj hcs4 hds4 hgw hnw hatw fr5 hvt
      rw [← pairRow_append, ← List.length_append] at how
      obtain ⟨v, h, hm, ms, V, f, ht0, hd⟩ := hI2.ts
      obtain ⟨a6, c6, rfl⟩ := own_slice ht0.own
      obtain ⟨_, hLc, ad3, hadE3, hsh, hshl⟩ := own_cut ht0.own ht0.hh
      rw [hd] at hsh
      have d5 : W5.cell? ⟨B, 5, none⟩ = some (.slice a6 ms.length c6) := cell_of ht0.blk rfl
      have d6 : W5.cell? ⟨B, 6, none⟩ = some (.int .i64 h) := cell_of ht0.blk rfl
      have hhh := ht0.hh
      have hi0 : (0 : Int) ≤ (h : Int) := by omega
      have hi2 : (h : Int) ≤ ms.length := by omega
      have hfql : (fl ++ q).length < 1000000 := by rw [List.length_append]; omega
      have lB5 := lt_of_some ht0.blk
      go_region_held3 (fun w' => w'.cell? ⟨B, 5, none⟩ = some (.slice a6 ms.length c6) ∧ w'.cell? ⟨B, 6, none⟩ = some (.int .i64 h))
        (first | go_keep | (exact ⟨(World.cell?_of_block (a := ⟨B, 5, none⟩) (hb67.block B lB5)).trans d5, (World.cell?_of_block (a := ⟨B, 6, none⟩) (hb67.block B lB5)).trans d6⟩) | (exact ⟨(World.cell?_of_block (a := ⟨B, 5, none⟩) (hb6.block B lB5)).trans d5, (World.cell?_of_block (a := ⟨B, 6, none⟩) (hb6.block B lB5)).trans d6⟩))
        (first | (go_at_call 10; refine (pairs_any _ (fl ++ q) W5.drew hsh hshl hfql).mono ?_; rintro e W6 ⟨v6, rfl, ho6, hn6, hb6⟩) | (go_at_call 13; refine (eq_same _ _ _ _ v6 vw (fl ++ q) W6 ho6 (own_fr how (Fr.of_below (⟨hb6.os, hb6.tape, hb6.output, hb6.size, hb6.block⟩ : Below W5.heap.size W5 W6) (fun _ => False)) (fun _ _ => id)) hfql).mono ?_; rintro e W7 ⟨rfl, hb7⟩; have hb67 : Below W5.heap.size W5 W7 := (⟨hb6.os, hb6.tape, hb6.output, hb6.size, hb6.block⟩ : Below W5.heap.size W5 W6).trans (hb7.mono hb6.size)))
      have hI7 := hI2.below hb67
      clear hI2 hb67 hb6 hb7 ho6 hn6 how hsh hshl hadE3 d5 d6 ht0 hd hLc hhh hi0 hi2 lB5
      go_wp2
      go_loopg [17] 9 (fun gk p wr => ∃ i : Nat, i ≤ 9 ∧ p = .int .i64 i ∧ 9 ≤ gk + i ∧ L2 B A9 (A9 + 1) (fl ++ q) H (upd H k none) (if (H k).isSome then n - 1 else n) w wr)
      case atStart => exact ⟨0, Nat.zero_le _, rfl, by omega, hI7⟩
      case round =>
        clear hI7
        obtain ⟨i, hile, rfl, hgk, hI⟩ := hrel
        obtain ⟨v, h, hm, ms, V, f, ht0, hd⟩ := hI.ts
        have d7 : wr.cell? ⟨B, 7, none⟩ = some hm := cell_of ht0.blk rfl
        by_cases hilt : i < 9
        · have hil : (i : Int) < 9 := by omega
          have lk := fun k => (ht0.look hilt (wr.drewN k) (fun r _ => rfl)).1
          have hq3 : i / 3 < 256 := by omega
          have hr3 : i % 3 < 256 := by omega
          obtain ⟨hsh, hshl, hhl⟩ := ht0.heldShows hilt
          by_cases hik : i = k
          · have hib : ((i : Int) == (k : Int)) = true := by simp; omega
            rw [hik, upd_same] at lk
            rw [← hik] at lk
            have lk2 : ∀ j, (Instr.lookup 94 hm (.agg #[.string (nm (i / 3)), .string (nm (i % 3))]) true).run Yba.prog (wr.drewN j) = .ok (.tuple #[.slice none 0 0, .bool false]) (wr.drewN j) := lk
            clear lk hik hsh hshl
            go_wp2
            go_quiet (refine Calls.quiet_of_same (name_any _ (by assumption) _))
            go_wp2
            go_roundg (gk - 1)
            case measure => omega
            case rel => exact ⟨i + 1, hilt, by go_num, by omega, hI.below ⟨rfl, rfl, rfl, Nat.le_refl _, fun _ _ => rfl⟩⟩
          · have hib : ((i : Int) == (k : Int)) = false := by simp; omega
            rw [upd_other _ _ hik] at lk hsh hshl hhl
            clear hik
            generalize ((H i).map fun _ => V i).getD (.slice none 0 0) = qv at *
            generalize hob : (H i).isSome = ob at *
            go_wp2
            go_quiet (refine Calls.quiet_of_same (name_any _ (by assumption) _))
            generalize hWq : World.drewN _ _ = Wq
            have hbq : Below wr.heap.size wr Wq := by rw [← hWq]; exact ⟨rfl, rfl, rfl, Nat.le_refl _, fun _ _ => rfl⟩
            clear hWq lk d7
            have hIq := hI.below hbq
            obtain ⟨cs, hcs, hcsj⟩ := hIq.arr
            obtain ⟨ds, hds, hdsj⟩ := hIq.flags
            obtain ⟨u, hcu, hou⟩ := hcsj i hilt
            have hdu := hdsj i hilt
            rw [hob] at hdu
            have m1 : Wq.cell? ⟨A9, i, none⟩ = some u := cell_of hcs hcu
            have m2 : Wq.cell? ⟨A9 + 1, i, none⟩ = some (.bool ob) := cell_of hds hdu
            have hshq := hsh.of_below hbq hshl
            have hshlq : ∀ g, qv.ownBlock = some g → g < Wq.heap.size := fun g hg => Nat.lt_of_lt_of_le (hshl g hg) hbq.size
            have l9 := lt_of_some hcs
            have l10 := lt_of_some hds
            have hobb : (ob != ob) = false := by simp
            obtain ⟨au, cu, hue⟩ := own_slice hou
            subst hue
            go_wp2
            go_region_held3 (fun w' => w'.cell? ⟨A9, i, none⟩ = some (.slice au ((H i).getD []).length cu) ∧ w'.cell? ⟨A9 + 1, i, none⟩ = some (.bool ob))
              (first | go_keep | (exact ⟨(World.cell?_of_block (a := ⟨A9, i, none⟩) (hb67.block A9 l9)).trans m1, (World.cell?_of_block (a := ⟨A9 + 1, i, none⟩) (hb67.block (A9 + 1) l10)).trans m2⟩) | (exact ⟨(World.cell?_of_block (a := ⟨A9, i, none⟩) (hb6.block A9 l9)).trans m1, (World.cell?_of_block (a := ⟨A9 + 1, i, none⟩) (hb6.block (A9 + 1) l10)).trans m2⟩))
              (first | (go_at_call 10; refine (pairs_any qv ((H i).getD []) Wq.drew hshq hshlq (by omega)).mono ?_; rintro e W6 ⟨v6, rfl, ho6, hn6, hb6⟩) | (go_at_call 13; refine (eq_same _ _ _ _ v6 _ ((H i).getD []) W6 ho6 (own_fr hou (Fr.of_below (⟨hb6.os, hb6.tape, hb6.output, hb6.size, hb6.block⟩ : Below Wq.heap.size Wq W6) (fun _ => False)) (fun _ _ => id)) (by omega)).mono ?_; rintro e W7 ⟨rfl, hb7⟩; have hb67 : Below Wq.heap.size Wq W7 := (⟨hb6.os, hb6.tape, hb6.output, hb6.size, hb6.block⟩ : Below Wq.heap.size Wq W6).trans (hb7.mono hb6.size)))
            all_goals
              go_wp2
              go_roundg (gk - 1)
              case measure => omega
              case rel => exact ⟨i + 1, hilt, by go_num, by omega, hIq.below hb67⟩
        · have hil : ¬ (i : Int) < 9 := by omega
          have hlen := ht0.len
          obtain ⟨ds, hds, hdsj⟩ := hI.flags
          have m2 : wr.cell? ⟨A9 + 1, k, none⟩ = some (.bool (H k).isSome) := cell_of hds (hdsj k hk9)
          have hbel := hI.bel
          cases hq : H k with
          | none =>
            rw [hq] at m2 hlen
            have m3 : wr.cell? ⟨A9 + 1, k, none⟩ = some (.bool false) := m2
            clear m2
            go_wp2_with (refine wpList_len_run rfl _ 94 rfl hm (.int .i64 n) rfl (hlen _) ?_)
            go_ret
            exact ⟨rfl, hbel⟩
          | some q' =>
            rw [hq] at m2 hlen
            have m3 : wr.cell? ⟨A9 + 1, k, none⟩ = some (.bool true) := m2
            have hlen2 : ∀ ty, (Builtin.len_ #[94] ty #[hm]).run Yba.prog wr = .ok (.int .i64 ((n - 1 : Nat) : Int)) wr := hlen
            have hn1 := hnpos q' hq
            have hne : ((((n - 1 : Nat) : Int)) == (n : Int) - 1) = true := by simp; omega
            clear m2 hlen
            go_wp2_with (refine wpList_len_run rfl _ 94 rfl hm (.int .i64 ((n - 1 : Nat) : Int)) rfl (hlen2 _) ?_)
            go_ret
            exact ⟨rfl, hbel⟩
end Go.Proofs.Ybulkcfri
