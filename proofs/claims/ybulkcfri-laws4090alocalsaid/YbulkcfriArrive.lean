import Derived.Test.YbulkcfriRecord
namespace Go.Proofs.Ybulkcfri
open Go.ChangeShapes Go.WideShapes Go.ChangeAt Go.RowKit Go.MuLone
set_option maxRecDepth 100000 in
theorem arrive_pre (S W r19 n m B : Nat) (f : Value → Option Value) (v : Value) (name : ByteArray) (fn : Value) (q : Nat → Nat) (r7 r17 r18 : Nat) (u p : Int) (hu : (Lit.int .u64 u).wf = true) (hp : (Lit.int .u64 p).wf = true) (w : World)
    (hS : w.heap[S]? = some (.cells (siteCells name fn q r7 r17 r18 r19) 71 (0, 0))) (hm : MapIs Yba.prog 75 w r19 f n) (hf : f (pk u p) = some v) (ho : w.ownsRow B 27 1 v m (reps W m)) (hm0 : 0 < m) :
    Calls Yba.prog 20 #[.pointer (some ⟨S, 0, none⟩), .pointer (some ⟨W, 0, none⟩), .int .u64 u, .int .u64 p] w fun e w' => e = .returned (.tuple #[]) ∧ Below w.heap.size w w' := by
  have s19 : w.cell? ⟨S, 19, none⟩ = some (.map (some r19)) := cell_of hS rfl
  go_enter Yba.func20, Yba.ntmps20
  go_wp2_with fail
  refine (record_known S r19 W n m B f v u p hu hp w hm hf ho hm0).mono ?_
  rintro e w1 ⟨rfl, hb1⟩
  go_wp2
  refine bodyPost_ret (results_none rfl _ _ _) rfl ?_
  exact ⟨rfl, hb1⟩
set_option maxRecDepth 100000 in
set_option maxHeartbeats 1000000 in
theorem arrive_again (S W r19 rb n nb : Nat) (f fb : Value → Option Value) (x : Int) (name home : ByteArray) (fn : Value) (q : Nat → Nat) (r7 r17 r18 : Nat) (idI idN : Int) (m1 ga gb out found pt : Value) (u p : Int) (hu : (Lit.int .u64 u).wf = true) (hp : (Lit.int .u64 p).wf = true) (w : World)
    (hS : w.heap[S]? = some (.cells (siteCells name fn q r7 r17 r18 r19) 71 (0, 0))) (hW : w.heap[W]? = some (.cells (walkCells idI idN home m1 (.map (some rb)) ga gb out found pt) 37 (0, 0))) (hm : MapIs Yba.prog 75 w r19 f n) (hf : f (pk u p) = none) (hmb : MapIs Yba.prog 22 w rb fb nb) (hfb : fb (.int .u64 u) = some (.int .i64 x)) (hx : 0 ≤ x ∧ x < 1000000) (hne : r19 ≠ rb) :
    Calls Yba.prog 20 #[.pointer (some ⟨S, 0, none⟩), .pointer (some ⟨W, 0, none⟩), .int .u64 u, .int .u64 p] w fun e w' => e = .returned (.tuple #[]) ∧ ∃ v g gg, MapIs Yba.prog 75 w' r19 g (n + 1) ∧ g (pk u p) = some v ∧ (∀ y, y ≠ pk u p → g y = f y) ∧ w'.ownsRow w.heap.size 27 1 v 1 (reps W 1) ∧ MapIs Yba.prog 22 w' rb gg nb ∧ gg (.int .u64 u) = some (.int .i64 (x + 1)) ∧ Fr (fun k => k = r19 ∨ k = rb) w w' := by
  have s19 : w.cell? ⟨S, 19, none⟩ = some (.map (some r19)) := cell_of hS rfl
  have hrW : r19 ≠ W := fun e => by obtain ⟨es, ck, hh, _⟩ := hm; rw [e, hW] at hh; cases hh
  go_enter Yba.func20, Yba.ntmps20
  go_wp2_with fail
  refine (record_new S r19 W n f u p hu hp w hm hf).mono ?_
  rintro e w1 ⟨rfl, v, g, hm1, hg1, hgx1, hov1, hfr1⟩
  have hW1 := (hfr1.block W (lt_of_some hW) (Ne.symm hrW)).trans hW
  have w4 : w1.cell? ⟨W, 4, none⟩ = some (.map (some rb)) := cell_of hW1 rfl
  have hmb1 : MapIs Yba.prog 22 w1 rb fb nb := hmb.of_block (hfr1.block rb hmb.lt (Ne.symm hne))
  go_wp2_with fail
  refine (count_any S rb nb (some x) fb u hu w1 hmb1 hfb (fun y hy => by cases hy; exact hx)).mono ?_
  rintro e w2 ⟨rfl, gg, hmb2, hgg, _, hfr2⟩
  go_wp2
  refine bodyPost_ret (results_none rfl _ _ _) rfl ?_
  refine ⟨rfl, v, g, gg, hm1.of_block (hfr2.block r19 hm1.lt hne), hg1, hgx1, own_fr hov1 hfr2 (fun k hk e => ?_), hmb2, hgg, (hfr1.mono (fun k _ e => .inl e)).trans (hfr2.mono (fun k _ e => .inr e))⟩
  obtain ⟨cu, hh⟩ := own_tag hov1 hk
  obtain ⟨es, ck, hh2, _⟩ := hmb1
  rw [← e, hh] at hh2; cases hh2
theorem zero79 : (Yba.prog.info? 79).map (fun i => (i.zero, i.size, i.bytes)) = some (some (.agg #[.int .u64 0, .string ⟨#[]⟩, .int .u64 0]), 3, 32) := by kernel_rfl
def wsRow (h : ByteArray) (xs : List Int) : List Value := xs.flatMap fun x => [.int .u64 x, .string h]
def stepRow (h : ByteArray) (u : Int) (xs : List Int) : List Value := xs.flatMap fun x => [.int .u64 x, .string h, .int .u64 u]
theorem wsRow_length (h : ByteArray) (xs : List Int) : (wsRow h xs).length = xs.length * 2 := by
  induction xs with
  | nil => rfl
  | cons p r ih => simp only [wsRow, List.flatMap_cons, List.length_append, List.length_cons] at ih ⊢; rw [ih]; simp; omega
theorem wsRow_at {h : ByteArray} {xs : List Int} {i : Nat} {x : Int} (e : xs[i]? = some x) (j : Nat) (u : Value) (hj : ([.int .u64 x, .string h] : List Value)[j]? = some u) : (wsRow h xs)[i * 2 + j]? = some u := by
  obtain ⟨hl, he⟩ := List.getElem?_eq_some_iff.1 e
  have hj2 : j < 2 := by have := (List.getElem?_eq_some_iff.1 hj).1; simpa using this
  have e2 : xs = xs.take i ++ (x :: xs.drop (i + 1)) := by rw [← he]; simp
  have e3 : wsRow h xs = wsRow h (xs.take i) ++ ([.int .u64 x, .string h] ++ wsRow h (xs.drop (i + 1))) := by
    calc wsRow h xs = wsRow h (xs.take i ++ (x :: xs.drop (i + 1))) := by rw [← e2]
      _ = _ := by simp [wsRow]
  rw [e3, List.getElem?_append_right (by rw [wsRow_length, List.length_take, Nat.min_eq_left (by omega)]; omega), wsRow_length, List.length_take, Nat.min_eq_left (by omega), List.getElem?_append_left (by simp; omega), show i * 2 + j - i * 2 = j by omega]
  exact hj
theorem own_ws {w : World} {base : Nat} {v : Value} {h : ByteArray} {xs : List Int} (ho : w.ownsRow base 45 2 v xs.length (wsRow h xs)) : xs ≠ [] → ∃ g c, v = .slice (some ⟨g, 0, none⟩) xs.length c ∧ g < w.heap.size ∧ (∃ cur, w.heap[g]? = some (.cells cur 45 (0, 0))) ∧ ∀ i x, xs[i]? = some x → w.cell? ⟨g, i * 2, none⟩ = some (.int .u64 x) ∧ w.cell? ⟨g, i * 2 + 1, none⟩ = some (.string h) := by
  intro hne
  rcases ho.2 with ⟨rfl, h0⟩ | ⟨g, cap, cur, rfl, hb, hh, hcap, _, hsz, htk⟩
  · exact absurd (List.length_eq_zero_iff.1 h0) hne
  · refine ⟨g, cap, rfl, lt_of_some hh, ⟨cur, hh⟩, fun i x he => ?_⟩
    have hi := (List.getElem?_eq_some_iff.1 he).1
    have key : ∀ j u, ([.int .u64 x, .string h] : List Value)[j]? = some u → w.cell? ⟨g, i * 2 + j, none⟩ = some u := by
      intro j u hj
      have hj2 : j < 2 := by have := (List.getElem?_eq_some_iff.1 hj).1; simpa using this
      have h1 := wsRow_at he j u hj
      rw [← htk, List.getElem?_take_of_lt (by omega)] at h1
      exact cell_of hh (by simpa using h1)
    exact ⟨key 0 _ rfl, key 1 _ rfl⟩
def ArrivedFirst (_S W r19 rb n nb : Nat) (f : Value → Option Value) (xs : List Int) (mark : Int → Bool) (hh home : ByteArray) (idI idN : Int) (m1 ga out found pt : Value) (u p : Int) (w w' : World) : Prop := ∃ v g gg gv, MapIs Yba.prog 75 w' r19 g (n + 1) ∧ g (pk u p) = some v ∧ (∀ y, y ≠ pk u p → g y = f y) ∧ w'.ownsRow w.heap.size 27 1 v 1 (reps W 1) ∧ MapIs Yba.prog 22 w' rb gg (nb + 1) ∧ gg (.int .u64 u) = some (.int .i64 1) ∧ w'.heap[W]? = some (.cells (walkCells idI idN home m1 (.map (some rb)) ga gv out found pt) 37 (0, 0)) ∧ w'.ownsRow w.heap.size 79 3 gv (xs.filter mark).length (stepRow hh u (xs.filter mark)) ∧ Fr (fun k => k = r19 ∨ k = rb ∨ k = W) w w'
set_option maxRecDepth 100000 in
set_option maxHeartbeats 4000000 in
theorem arrive_first (S W r19 rb n nb r18 n18 r7 n7 B : Nat) (f fb f18 f7 : Value → Option Value) (vs : Value) (xs : List Int) (mark : Int → Bool) (hh name home : ByteArray) (fn : Value) (q : Nat → Nat) (r17 : Nat) (idI idN : Int) (m1 ga out found pt : Value) (u p : Int) (hu : (Lit.int .u64 u).wf = true) (hp : (Lit.int .u64 p).wf = true) (w : World)
    (hS : w.heap[S]? = some (.cells (siteCells name fn q r7 r17 r18 r19) 71 (0, 0))) (hW : w.heap[W]? = some (.cells (walkCells idI idN home m1 (.map (some rb)) ga (.slice none 0 0) out found pt) 37 (0, 0))) (hm : MapIs Yba.prog 75 w r19 f n) (hf : f (pk u p) = none) (hmb : MapIs Yba.prog 22 w rb fb nb) (hfb : fb (.int .u64 u) = none) (hne : r19 ≠ rb)
    (hm7 : MapIs Yba.prog 22 w r7 f7 n7) (hvs : (f7 (.int .u64 u)).getD (.slice none 0 0) = vs) (how : w.ownsRow B 45 2 vs xs.length (wsRow hh xs)) (hxl : xs.length ≤ 1024)
    (hm18 : MapIs Yba.prog 75 w r18 f18 n18) (hmk : ∀ x ∈ xs, (Lit.int .u64 x).wf = true ∧ ∃ m, w.ownsRow B 27 1 ((f18 (pk x u)).getD (.slice none 0 0)) m (reps W m) ∧ mark x = decide (0 < m)) (h7 : r7 ≠ r19 ∧ r7 ≠ rb) (h18 : r18 ≠ r19 ∧ r18 ≠ rb) :
    Calls Yba.prog 20 #[.pointer (some ⟨S, 0, none⟩), .pointer (some ⟨W, 0, none⟩), .int .u64 u, .int .u64 p] w fun e w' => e = .returned (.tuple #[]) ∧ ArrivedFirst S W r19 rb n nb f xs mark hh home idI idN m1 ga out found pt u p w w' := by
  have s19 : w.cell? ⟨S, 19, none⟩ = some (.map (some r19)) := cell_of hS rfl
  have map_ne : ∀ {K : TypeId} {r k n : Nat} {f : Value → Option Value} {c : Array Value} {t : TypeId}, MapIs Yba.prog K w r f n → w.heap[k]? = some (.cells c t (0, 0)) → k ≠ r := fun hq hk e => by
    obtain ⟨es, ck, h3, _⟩ := hq
    rw [← e, hk] at h3; cases h3
  have hrW : r19 ≠ W := Ne.symm (map_ne hm hW)
  go_enter Yba.func20, Yba.ntmps20
  go_wp2_with fail
  refine (record_new S r19 W n f u p hu hp w hm hf).mono ?_
  rintro e w1 ⟨rfl, v, g, hm1, hg1, hgx1, hov1, hfr1⟩
  have hW1 := (hfr1.block W (lt_of_some hW) (Ne.symm hrW)).trans hW
  have w4 : w1.cell? ⟨W, 4, none⟩ = some (.map (some rb)) := cell_of hW1 rfl
  have hmb1 : MapIs Yba.prog 22 w1 rb fb nb := hmb.of_block (hfr1.block rb hmb.lt (Ne.symm hne))
  go_wp2_with fail
  refine (count_any S rb nb none fb u hu w1 hmb1 hfb (fun y hy => by cases hy)).mono ?_
  rintro e w2 ⟨rfl, gg, hmb2, hgg, _, hfr2⟩
  have fr2 : Fr (fun k => k = r19 ∨ k = rb) w w2 := (hfr1.mono (fun k _ e => .inl e)).trans (hfr2.mono (fun k _ e => .inr e))
  have hnS : ¬ (S = r19 ∨ S = rb) := fun e => e.elim (map_ne hm hS) (map_ne hmb hS)
  have hnW : ¬ (W = r19 ∨ W = rb) := fun e => e.elim (map_ne hm hW) (map_ne hmb hW)
  have hS2 := (fr2.block S (lt_of_some hS) hnS).trans hS
  have hW2 := (fr2.block W (lt_of_some hW) hnW).trans hW
  have hm72 : MapIs Yba.prog 22 w2 r7 f7 n7 := hm7.of_block (fr2.block r7 hm7.lt (fun e => e.elim h7.1 h7.2))
  have hm182 : MapIs Yba.prog 75 w2 r18 f18 n18 := hm18.of_block (fr2.block r18 hm18.lt (fun e => e.elim h18.1 h18.2))
  have rowk : ∀ {C : Nat} {t : TypeId} {sz k : Nat} {x : Value} {l : List Value}, w.ownsRow C t sz x k l → w2.ownsRow C t sz x k l := fun ho => own_fr ho fr2 (fun k hk e => by
    obtain ⟨cu, h3⟩ := own_tag ho hk
    exact e.elim (map_ne hm h3) (map_ne hmb h3))
  have how2 := rowk how
  have s7 : w2.cell? ⟨S, 7, none⟩ = some (.map (some r7)) := cell_of hS2 rfl
  obtain ⟨l, hkey⟩ := key22 hu
  have lk7 := hm72.lookup law22 Yba.underlying55 (Yba.zeroValue74 w2) hkey false
  rw [hvs] at lk7
  have lk7' : (Instr.lookup 55 (.map (some r7)) (.int .u64 u) false).run Yba.prog w2 = .ok vs w2 := lk7
  obtain ⟨av, cv, hve⟩ := own_slice how2
  subst hve
  clear lk7 hkey
  obtain ⟨i9, hi9, hz90, hz91, hz92⟩ := info_parts zero79
  have lS2 := lt_of_some hS2
  have lW2 := lt_of_some hW2
  have hSW : S ≠ W := tag_ne hS hW (by decide)
  have h18W : r18 ≠ W := Ne.symm (map_ne hm18 hW)
  have hmk2 : ∀ x ∈ xs, (Lit.int .u64 x).wf = true ∧ ∃ m, w2.ownsRow B 27 1 ((f18 (pk x u)).getD (.slice none 0 0)) m (reps W m) ∧ mark x = decide (0 < m) := fun x hx => by
    obtain ⟨h1, m, h2, h3⟩ := hmk x hx
    exact ⟨h1, m, rowk h2, h3⟩
  go_wp2
  go_loopg [39] xs.length (fun gk p wr => ∃ i : Nat, i ≤ xs.length ∧ p = .int .i64 i ∧ xs.length ≤ gk + i ∧ ∃ gv, wr.heap[W]? = some (.cells (walkCells idI idN home m1 (.map (some rb)) ga gv out found pt) 37 (0, 0)) ∧ wr.ownsRow w2.heap.size 79 3 gv ((xs.take i).filter mark).length (stepRow hh u ((xs.take i).filter mark)) ∧ Fr (· = W) w2 wr)
  case atStart => exact ⟨0, Nat.zero_le _, rfl, by omega, _, hW2, World.ownsRow_nil _ _ _ _, Fr.refl _ _⟩
  case round =>
    obtain ⟨i, hile, rfl, hgk, gv, hWr, hov, hfr⟩ := hrel
    by_cases hilt : i < xs.length
    · have hil : (i : Int) < xs.length := by omega
      obtain ⟨x, he⟩ : ∃ x, xs[i]? = some x := ⟨_, List.getElem?_eq_getElem hilt⟩
      obtain ⟨hxw, m, hom, hmx⟩ := hmk2 x (List.mem_of_getElem? he)
      obtain ⟨g5, c5, hve5, hgl5, ⟨cur5, htg5⟩, hcells5⟩ := own_ws how2 (fun e => by rw [e] at hilt; simp at hilt)
      obtain ⟨rfl, rfl⟩ : av = some ⟨g5, 0, none⟩ ∧ cv = c5 := by injection hve5 with q1 _ q3; exact ⟨q1, q3⟩
      obtain ⟨k0, k1⟩ := hcells5 i x he
      have hg5W : g5 ≠ W := tag_ne htg5 hW2 (by decide)
      have k0' := hfr.cell k0 hg5W
      have k1' := hfr.cell k1 hg5W
      obtain ⟨X1, hX1⟩ : ∃ X1, wr.alloc (.cells #[.int .u64 x, .string hh] 45) = X1 := ⟨_, rfl⟩
      have hbX : Below wr.heap.size wr X1 := by rw [← hX1]; exact below_alloc _ _
      have frX : Fr (· = W) w2 X1 := hfr.trans (Fr.of_below hbX _)
      have hNX : X1.heap[wr.heap.size]? = some (.cells #[.int .u64 x, .string hh] 45 (0, 0)) := by rw [← hX1, heap_alloc, if_pos rfl]
      have y0 := cell_of (j := 0) hNX rfl
      have y1 := cell_of (j := 1) hNX rfl
      have hSX := (frX.block S lS2 hSW).trans hS2
      have s18 : X1.cell? ⟨S, 18, none⟩ = some (.map (some r18)) := cell_of hSX rfl
      have hWX := (hbX.block W (lt_of_some hWr)).trans hWr
      have homX := own_fr hom frX (fun k hk e => by obtain ⟨cu, h3⟩ := own_tag hom hk; exact tag_ne h3 hW2 (by decide) e)
      have hovX := own_fr hov (Fr.of_below hbX (fun _ => False)) (fun _ _ => id)
      have hm18X : MapIs Yba.prog 75 X1 r18 f18 n18 := hm182.of_block (frX.block r18 hm182.lt h18W)
      obtain ⟨l2, hkey2⟩ := key75 hxw hu
      have lk18 : ∀ k, (Instr.lookup 64 (.map (some r18)) (.agg #[.int .u64 x, .int .u64 u]) false).run Yba.prog (X1.drewN k) = .ok ((f18 (pk x u)).getD (.slice none 0 0)) (X1.drewN k) := fun k => (hm18X.of_block (w' := X1.drewN k) rfl).lookup law75 Yba.underlying64 (Yba.zeroValue76 _) hkey2 false
      have d6 : X1.cell? ⟨W, 6, none⟩ = some gv := cell_of hWX rfl
      generalize (f18 (pk x u)).getD (.slice none 0 0) = lv at *
      have hlg : ((xs.take i).filter mark).length ≤ i := Nat.le_trans (List.length_filter_le _ _) (by rw [List.length_take]; omega)
      have hsX : w2.heap.size ≤ X1.heap.size := frX.size
      obtain ⟨Fm, hFm'⟩ : ∃ Fm, (xs.take i).filter mark = Fm := ⟨_, rfl⟩
      rw [hFm'] at hov hovX hlg
      have hFm : Hid ((xs.take i).filter mark = Fm) := hFm'
      have ht1 : Hid (xs.take (i + 1) = xs.take i ++ [x]) := by show _ = _; rw [List.take_add_one, he]; rfl
      have hmx' : Hid (mark x = decide (0 < m)) := hmx
      clear hFm' k0 k1 hcells5 hmx
      go_wp2
      go_quiet (refine Calls.quiet_of_same (contains_reps B W m lv _ (own_fr homX ((Fr.refl (fun _ => False) X1).drewN _) (fun _ _ => id))))
      generalize hbm : decide (0 < m) = bm at *
      clear hbm
      cases bm with
      | true =>
        go_wp2
        generalize hX2 : World.drewN _ _ = X2
        have hb2 : Below X1.heap.size X1 X2 := by rw [← hX2]; exact ⟨rfl, rfl, rfl, Nat.le_refl _, fun _ _ => rfl⟩
        have hW2x := (hb2.block W (lt_of_some hWX)).trans hWX
        have hN2x := (hb2.block _ (lt_of_some hNX)).trans hNX
        have hov2 := own_fr hovX (Fr.of_below hb2 (fun _ => False)) (fun _ _ => id)
        have frX2 : Fr (· = W) w2 X2 := frX.trans (Fr.of_below hb2 _)
        have lN2 := lt_of_some hN2x
        have lW2x := lt_of_some hW2x
        clear hX2 y0 y1 s18 d6 lk18
        obtain ⟨a6, c6, hge6⟩ := own_slice hov2
        subst hge6
        have t6 : X2.cell? ⟨W, 6, none⟩ = some (.slice a6 Fm.length c6) := cell_of hW2x rfl
        have y0 := cell_of (j := 0) hN2x rfl
        have y1 := cell_of (j := 1) hN2x rfl
        have hs22 := hb2.size
        have hneW : some W ≠ Value.ownBlock (.slice a6 Fm.length c6) := fun e => by
          obtain ⟨cu, h3⟩ := own_tag hov2 e.symm
          exact tag_ne h3 hW2x (by decide) rfl
        have hB3 : w2.heap.size ≤ (X2.alloc (.cells #[.int .u64 x, .string hh, .int .u64 u] 79)).heap.size := by rw [size_alloc]; omega
        go_region_law (refine step_append_own rfl _ _ 32 rfl w2.heap.size 79 i9 _ 3 32 Yba.underlying32 hi9 hz90 hz91 hz92 rfl (by decide) (.slice a6 Fm.length c6) Fm.length (stepRow hh u Fm) rfl (own_fr hov2 (((Fr.refl (fun _ => False) X2).alloc _).drew) (fun _ _ => id)) ⟨X2.heap.size, 0, none⟩ 1 1 [.int .u64 x, .string hh, .int .u64 u] rfl rfl (newsAt (show (World.alloc X2 _).heap[X2.heap.size]? = _ from by rw [heap_alloc, if_pos rfl] <;> rfl)) (by intro z hz; simp at hz; rcases hz with rfl | rfl | rfl <;> rfl) (by unfold maxLen; omega) (by omega) (by exact hB3) ?_; intro v' w5 ho hg hn hat; have hW5 := (hg.block W (Nat.lt_of_lt_of_le (lt_of_some hW2x) (by show X2.heap.size ≤ (World.alloc X2 _).heap.size; rw [size_alloc]; omega)) hneW).trans (heap_alloc_old hW2x); have t65 : w5.cell? ⟨W, 6, none⟩ = some (.slice a6 Fm.length c6) := cell_of hW5 rfl; have f65 : w5.frozen? ⟨W, 6, none⟩ = false := free_of hW5; obtain ⟨a7, c7, hge7⟩ := own_slice ho; subst hge7)
        all_goals
          go_wp2
          go_roundg (gk - 1)
          case measure => omega
          case rel =>
            have hmt : mark x = true := hmx'.out
            refine ⟨i + 1, hilt, by go_num, by omega, .slice a7 (Fm.length + 1) c7, by rw [heap_setCell_same hW5]; rfl, ?_, ?_⟩
            · rw [ht1.out, List.filter_append, hFm.out, show [x].filter mark = [x] by simp [hmt]]
              rw [show stepRow hh u (Fm ++ [x]) = stepRow hh u Fm ++ [.int .u64 x, .string hh, .int .u64 u] by simp [stepRow], List.length_append]
              refine own_fr ho ((Fr.refl (· = W) w5).setCell (W := W) rfl _ _) (fun k hk => ?_)
              obtain ⟨cu, h3⟩ := own_tag ho hk
              exact tag_ne h3 hW5 (by decide)
            · have f1 : Fr (fun k => k = W ∨ w2.heap.size ≤ k) w2 X2 := frX2.mono (fun k _ e => .inl e)
              have f2 : Fr (fun k => k = W ∨ w2.heap.size ≤ k) w2 w5 := (f1.alloc _).drew.trans (Fr.of_grown hg (fun k e => .inr (own_B hov2 e)))
              exact (f2.setCell (W := W) (.inl rfl) _ _).mono (fun k hk e => e.elim id (fun e => by omega))
      | false =>
        go_wp2
        go_roundg (gk - 1)
        case measure => omega
        case rel =>
          have hmf : mark x = false := hmx'.out
          refine ⟨i + 1, hilt, by go_num, by omega, gv, hWX, ?_, frX.drewN _⟩
          rw [ht1.out, List.filter_append, hFm.out, show [x].filter mark = [] by simp [hmf], List.append_nil]
          exact hovX
    · have hil : ¬ (i : Int) < xs.length := by omega
      have ei : i = xs.length := by omega
      rw [ei, List.take_length] at hov
      go_wp2
      refine bodyPost_end (results_none rfl _ _ _) rfl ?_
      have hsz := fr2.size
      refine ⟨rfl, v, g, gg, gv, (hm1.of_block (hfr2.block r19 hm1.lt hne)).of_block (hfr.block r19 (Nat.lt_of_lt_of_le hm1.lt hfr2.size) hrW), hg1, hgx1, ?_, hmb2.of_block (hfr.block rb hmb2.lt (Ne.symm (map_ne hmb hW))), hgg, hWr, own_base hov hsz, (fr2.mono (fun k _ e => e.elim .inl (fun e => .inr (.inl e)))).trans (hfr.mono (fun k _ e => .inr (.inr e)))⟩
      have hov2 : w2.ownsRow w.heap.size 27 1 v 1 (reps W 1) := own_fr hov1 hfr2 (fun k hk e => by
        obtain ⟨cu, h3⟩ := own_tag hov1 hk
        obtain ⟨es, ck, hh2, _⟩ := hmb1
        rw [← e, h3] at hh2; cases hh2)
      exact own_fr hov2 hfr (fun k hk e => by obtain ⟨cu, h3⟩ := own_tag hov2 hk; exact tag_ne h3 hW2 (by decide) e)
end Go.Proofs.Ybulkcfri
