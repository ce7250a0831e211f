import Derived.Test.YbulkcfriRowSteps
namespace Go.Proofs.Ybulkcfri
open Go.ChangeShapes Go.WideShapes Go.ChangeAt Go.RowKit Go.MuLone
theorem Below.cellAt' {B : Nat} {w w' : World} (h : Below B w w') {a : Addr} {v : Value} (hc : w.cell? a = some v) (hB : a.block < B) : w'.cell? a = some v :=
  (World.cell?_of_block (h.block a.block hB)).trans hc
theorem rowOf_length (ms : List (ByteArray × ByteArray)) : (rowOf ms).length = ms.length * 13 := by
  induction ms with
  | nil => rfl
  | cons p r ih => simp only [rowOf, List.flatMap_cons, List.length_append, List.length_cons] at ih ⊢; rw [ih]; simp [msgOf]; omega
theorem rowOf_append (a b : List (ByteArray × ByteArray)) : rowOf (a ++ b) = rowOf a ++ rowOf b := by simp [rowOf]
theorem rowOf_one (ms : List (ByteArray × ByteArray)) : ∀ u ∈ rowOf ms, u.oneCell' = true := by
  intro u hu
  simp only [rowOf, List.mem_flatMap] at hu
  obtain ⟨p, _, hp⟩ := hu
  exact msg_one _ _ u hp
theorem rowOf_split {ms : List (ByteArray × ByteArray)} {h : Nat} {a b : ByteArray} (e : ms[h]? = some (a, b)) : rowOf ms = rowOf (ms.take h) ++ (msgOf a b ++ rowOf (ms.drop (h + 1))) := by
  obtain ⟨hl, he⟩ := List.getElem?_eq_some_iff.1 e
  have : ms = ms.take h ++ ((a, b) :: ms.drop (h + 1)) := by
    rw [← he]; simp
  calc rowOf ms = rowOf (ms.take h ++ ((a, b) :: ms.drop (h + 1))) := by rw [← this]
    _ = _ := by simp [rowOf]
/-- cell j of message h in a row. -/
theorem row_cell {w : World} {g h L : Nat} {cur : Array Value} {t : TypeId} {ms : List (ByteArray × ByteArray)} {a b : ByteArray} (hg : w.heap[g]? = some (.cells cur t (0, 0))) (htk : cur.toList.take (L * 13) = rowOf ms) (hL : ms.length = L) (e : ms[h]? = some (a, b)) : w.rangeAt g (h * 13) (msgOf a b) := by
  intro j u hj
  have hh : h < ms.length := (List.getElem?_eq_some_iff.1 e).1
  have hj13 : j < 13 := by have := (List.getElem?_eq_some_iff.1 hj).1; simpa [msgOf] using this
  refine cell_of hg ?_
  have h1 : (rowOf ms)[h * 13 + j]? = some u := by
    rw [rowOf_split e, List.getElem?_append_right (by rw [rowOf_length, List.length_take, Nat.min_eq_left (by omega)]; omega), rowOf_length, List.length_take, Nat.min_eq_left (by omega), List.getElem?_append_left (by simp [msgOf]; omega), show h * 13 + j - h * 13 = j by omega]
    exact hj
  rw [← htk, List.getElem?_take_of_lt (by subst hL; have : h * 13 + 13 ≤ ms.length * 13 := by omega
                                          omega)] at h1
  simpa using h1
def zmsg : List Value := msgOf ⟨#[]⟩ ⟨#[]⟩
theorem splice_take {α : Type} (X : List α) (o n : Nat) (cs : List α) (h : o + cs.length ≤ n) (hn : n ≤ X.length) : (splice X o cs).take n = splice (X.take n) o cs := by
  unfold splice
  rw [List.take_append, List.take_append, List.take_take, List.take_take, List.length_take, Nat.min_eq_left (by omega : o ≤ X.length), List.take_of_length_le (by omega : cs.length ≤ n - o), Nat.min_eq_right (by omega : o ≤ n), Nat.min_eq_left (by omega : o ≤ n), List.drop_take, show n - o - cs.length = n - (o + cs.length) by omega]
theorem splice_mid {α : Type} (A B C cs : List α) (n : Nat) (hn : A.length = n) (h : cs.length = B.length) : splice (A ++ (B ++ C)) n cs = A ++ (cs ++ C) := by
  unfold splice
  subst hn
  rw [h]
  simp
theorem splice_zero {α : Type} (X cs : List α) : (splice X 0 cs).take cs.length = cs := by simp [splice]
theorem splice_keep {α : Type} (X : List α) (o n : Nat) (cs : List α) (h : n ≤ o) (ho : o ≤ X.length) : (splice X o cs).take n = X.take n := by
  unfold splice
  rw [List.take_append, List.take_take, List.length_take, Nat.min_eq_left h, Nat.min_eq_left ho, show n - o = 0 by omega]
  simp
theorem splice_len {α : Type} (X : List α) (o : Nat) (cs : List α) (h : o + cs.length ≤ X.length) : (splice X o cs).length = X.length := by
  simp [splice]; omega
def TookOne (M g c : Nat) (mu : Int) (hm : Value) (L : Nat) (rest : List (ByteArray × ByteArray)) (w w' : World) : Prop := ∃ L' h' ms' cur', w'.heap[M]? = some (.cells (tCells mu (.slice (some ⟨g, 0, none⟩) L' c) h' hm) 96 (0, 0)) ∧ w'.heap[g]? = some (.cells cur' 49 (0, 0)) ∧ cur'.toList.take (L' * 13) = rowOf ms' ∧ ms'.length = L' ∧ L' ≤ L ∧ cur'.size = c * 13 ∧ h' ≤ L' ∧ ms'.drop h' = rest ∧ Fr (fun k => k = M ∨ k = g) w w'
theorem zeroCells_one (k : Nat) : ∀ v ∈ (Builtin.zeroCells (Value.agg zmsg.toArray).cells k).toList, v.oneCell' = true := by
  intro v hv
  simp only [Builtin.zeroCells, Array.toList_map, List.mem_map] at hv
  obtain ⟨i, _, rfl⟩ := hv
  have h13 : i % (Value.agg zmsg.toArray).cells.size < 13 := Nat.mod_lt _ (by decide)
  generalize i % (Value.agg zmsg.toArray).cells.size = m at h13
  have : ∀ m, m < 13 → ((Value.agg zmsg.toArray).cells[m]!).oneCell' = true := by decide
  exact this m h13
theorem zeroCells_len (k : Nat) : (Builtin.zeroCells (Value.agg zmsg.toArray).cells k).toList.length = k * 13 := by
  simp [Builtin.zeroCells]; rfl
theorem row_cut {X : List Value} {ms : List (ByteArray × ByteArray)} {h L c : Nat} {a b : ByteArray} (hXl : X.length = c * 13) (hLc : L ≤ c) (hL : h < L) (hms : ms.length = L) (htk : X.take (L * 13) = rowOf ms) (he : ms[h]? = some (a, b)) :
    (splice X (h * 13) zmsg).take (L * 13) = rowOf (ms.take h ++ ((⟨#[]⟩, ⟨#[]⟩) :: ms.drop (h + 1))) ∧ (splice X (h * 13) zmsg).length = c * 13 := by
  constructor
  · rw [splice_take _ _ _ _ (by show h * 13 + 13 ≤ _; omega) (by rw [hXl]; omega), htk, rowOf_split he, splice_mid (rowOf (ms.take h)) (msgOf a b) (rowOf (ms.drop (h + 1))) zmsg (h * 13) (by rw [rowOf_length, List.length_take, Nat.min_eq_left (by omega)]) rfl]
    simp [rowOf, zmsg]
  · rw [splice_len _ _ _ (by rw [hXl]; show h * 13 + 13 ≤ _; omega), hXl]
set_option maxRecDepth 100000 in
set_option maxHeartbeats 8000000 in
theorem take_first (M g h L c : Nat) (mu : Int) (hm : Value) (ms : List (ByteArray × ByteArray)) (cur : Array Value) (a b : ByteArray) (w : World) (hM : w.heap[M]? = some (.cells (tCells mu (.slice (some ⟨g, 0, none⟩) L c) h hm) 96 (0, 0))) (hL : h < L) (hL2 : L < 1000000)
    (hg : w.heap[g]? = some (.cells cur 49 (0, 0))) (htk : cur.toList.take (L * 13) = rowOf ms) (hms : ms.length = L) (hLc : L ≤ c) (hcs : cur.size = c * 13) (he : ms[h]? = some (a, b)) :
    Calls Yba.prog 23 #[.pointer (some ⟨M, 0, none⟩)] w fun e w' => e = .returned (.tuple #[.agg (msgOf a b).toArray, .bool true]) ∧ TookOne M g c mu hm L (ms.drop (h + 1)) w w' := by
  have lM := lt_of_some hM
  have lg := lt_of_some hg
  have hgM : g ≠ M := tag_ne hg hM (by decide)
  have c5' : w.cell? ⟨M, 5, none⟩ = some (.slice (some ⟨g, 0, none⟩) L c) := cell_of hM rfl
  have c6' : w.cell? ⟨M, 6, none⟩ = some (.int .i64 h) := cell_of hM rfl
  have hb : ((h : Int) == (L : Int)) = false := by simp; omega
  have hi1 : (h : Int) < L := by omega
  have hra := row_cell hg htk hms he
  have hi49 : (Yba.prog.info? 49).map (·.size) = some 13 := by
    have := zero49
    cases hq : Yba.prog.info? 49 with
    | none => simp [hq] at this
    | some i => simp [hq] at this ⊢; exact this.2.1
  go_enter Yba.func23, Yba.ntmps23
  go_wp2
  go_quiet (fail)
  go_wp2
  generalize hw : World.drewN _ _ = W2
  have hb2 : Below w.heap.size w W2 := by
    rw [← hw]; exact (below_alloc w _).trans ⟨rfl, rfl, rfl, Nat.le_refl _, fun _ _ => rfl⟩
  have hN2 : W2.heap[w.heap.size]? = some (.cells zmsg.toArray 49 (0, 0)) := by
    rw [← hw]
    show (World.alloc w _).heap[w.heap.size]? = _
    rw [heap_alloc, if_pos rfl]; rfl
  clear hw
  have hM2 := (hb2.block M lM).trans hM
  have hg2 := (hb2.block g lg).trans hg
  have hra2 := row_cell hg2 htk hms he
  have c52 : W2.cell? ⟨M, 5, none⟩ = some (.slice (some ⟨g, 0, none⟩) L c) := cell_of hM2 rfl
  have c62 : W2.cell? ⟨M, 6, none⟩ = some (.int .i64 h) := cell_of hM2 rfl
  have m0 : W2.cell? ⟨g, h * 13, none⟩ = some (.int .i64 0) := hra2 0 _ rfl
  have m1 : W2.cell? ⟨g, h * 13 + 1, none⟩ = some (.string a) := hra2 1 _ rfl
  have m2 : W2.cell? ⟨g, h * 13 + 2, none⟩ = some (.string b) := hra2 2 _ rfl
  have m3 : W2.cell? ⟨g, h * 13 + 3, none⟩ = some (.int .u64 0) := hra2 3 _ rfl
  have m4 : W2.cell? ⟨g, h * 13 + 4, none⟩ = some (.int .u64 0) := hra2 4 _ rfl
  have m5 : W2.cell? ⟨g, h * 13 + 5, none⟩ = some (.int .u64 0) := hra2 5 _ rfl
  have m6 : W2.cell? ⟨g, h * 13 + 6, none⟩ = some (.int .u64 0) := hra2 6 _ rfl
  have m7 : W2.cell? ⟨g, h * 13 + 7, none⟩ = some (.int .u64 0) := hra2 7 _ rfl
  have m8 : W2.cell? ⟨g, h * 13 + 8, none⟩ = some (.string ⟨#[]⟩) := hra2 8 _ rfl
  have m9 : W2.cell? ⟨g, h * 13 + 9, none⟩ = some (.slice none 0 0) := hra2 9 _ rfl
  have m10 : W2.cell? ⟨g, h * 13 + 10, none⟩ = some (.slice none 0 0) := hra2 10 _ rfl
  have m11 : W2.cell? ⟨g, h * 13 + 11, none⟩ = some (.bool false) := hra2 11 _ rfl
  have m12 : W2.cell? ⟨g, h * 13 + 12, none⟩ = some (.bool false) := hra2 12 _ rfl
  clear c5' c6'
  have hsz2 := hb2.size
  generalize hNe : w.heap.size = N at *
  replace hsz2 : N ≤ W2.heap.size := by rw [← hNe]; exact hb2.size
  refine wp_region_quiet_last 20 (by kernel_rfl) (by kernel_rfl) (by kernel_rfl) ?_
  simp only [dropOf, lastOf]
  repeat (go_big_quiet_step (fail))
  refine wpQuiet_nil ?_
  intro w3 hw3
  obtain ⟨nq3, hw3⟩ := hw3
  have hb23 : Below W2.heap.size W2 w3 := by rw [hw3]; exact ⟨rfl, rfl, rfl, Nat.le_refl _, fun _ _ => rfl⟩
  have hN3' : w3.heap[N]? = some (.cells zmsg.toArray 49 (0, 0)) := (hb23.block N (lt_of_some hN2)).trans hN2
  clear hw3
  refine step_store_row rfl 49 _ _ rfl N 0 (msgOf a b) rfl rfl _ 49 hN3' (by simp [msgOf, zmsg]) hi49 (msg_one a b) ?_
  intro W3 hN3 hf3
  have hs3 : splice zmsg.toArray.toList 0 (msgOf a b) = msgOf a b := rfl
  rw [hs3] at hN3
  have hM3 := (hf3.block M (Nat.lt_of_lt_of_le lM (Nat.le_trans hsz2 hb23.size)) (by omega)).trans ((hb23.block M (lt_of_some hM2)).trans hM2)
  have hg3 := (hf3.block g (Nat.lt_of_lt_of_le lg (Nat.le_trans hsz2 hb23.size)) (by omega)).trans ((hb23.block g (lt_of_some hg2)).trans hg2)
  have fr3 : Fr (fun k => k = M ∨ k = g) w W3 := by
    have f1 : Fr (fun k => k = M ∨ k = g) w w3 := (Fr.of_below (hNe ▸ hb2) _).trans (Fr.of_below hb23 _)
    exact ⟨hf3.os.trans f1.os, hf3.tape.trans f1.tape, hf3.output.trans f1.output, Nat.le_trans f1.size hf3.size, fun k hk hx => (hf3.block k (Nat.lt_of_lt_of_le hk f1.size) (by omega)).trans (f1.block k hk hx)⟩
  have c53 : W3.cell? ⟨M, 5, none⟩ = some (.slice (some ⟨g, 0, none⟩) L c) := cell_of hM3 rfl
  have c63 : W3.cell? ⟨M, 6, none⟩ = some (.int .i64 h) := cell_of hM3 rfl
  clear m0 m1 m2 m3 m4 m5 m6 m7 m8 m9 m10 m11 m12 c52 c62 hf3 hb23 hN3' hra2
  go_wp2
  refine wp_region_quiet_last 20 (by kernel_rfl) (by kernel_rfl) (by kernel_rfl) ?_
  simp only [dropOf, lastOf]
  repeat (go_big_quiet_step (fail))
  refine wpQuiet_nil ?_
  intro w4 hw4
  obtain ⟨nq4, hw4⟩ := hw4
  have hb34 : Below W3.heap.size W3 w4 := by rw [hw4]; exact ⟨rfl, rfl, rfl, Nat.le_refl _, fun _ _ => rfl⟩
  have hg4' := (hb34.block g (lt_of_some hg3)).trans hg3
  clear hw4
  refine step_store_row rfl 49 _ _ rfl g (h * 13) zmsg rfl rfl _ 49 hg4' (by rw [hcs]; show _ + 13 ≤ _; omega) hi49 (msg_one _ _) ?_
  intro W4 hg4 hf4
  have hM4 := (hf4.block M (Nat.lt_of_lt_of_le (lt_of_some hM3) hb34.size) (Ne.symm hgM)).trans ((hb34.block M (lt_of_some hM3)).trans hM3)
  have hgN : N ≠ g := by omega
  have hN4 := (hf4.block N (Nat.lt_of_lt_of_le (lt_of_some hN3.out) hb34.size) hgN).trans ((hb34.block N (lt_of_some hN3.out)).trans hN3.out)
  have fr4 : Fr (fun k => k = M ∨ k = g) w W4 := (fr3.trans (Fr.of_below hb34 _)).trans (hf4.mono (fun k _ e => .inr e))
  have c64 : W4.cell? ⟨M, 6, none⟩ = some (.int .i64 h) := cell_of hM4 rfl
  have f64 : W4.frozen? ⟨M, 6, none⟩ = false := free_of hM4
  have c54 : W4.cell? ⟨M, 5, none⟩ = some (.slice (some ⟨g, 0, none⟩) L c) := cell_of hM4 rfl
  clear c53 c63 hb34 hg4' hf4
  go_wp2
  generalize hW5 : World.setCell W4 _ _ = W5
  have hM5 : W5.heap[M]? = some (.cells (tCells mu (.slice (some ⟨g, 0, none⟩) L c) (h + 1) hm) 96 (0, 0)) := by
    rw [← hW5, heap_setCell_same hM4]; rfl
  have hN5 : W5.heap[N]? = some (.cells (msgOf a b).toArray 49 (0, 0)) := by
    rw [← hW5, heap_setCell_other (by show M ≠ N; omega)]; exact hN4
  have hg5 : Hid (W5.heap[g]? = some (.cells (splice cur.toList (h * 13) zmsg).toArray 49 (0, 0))) := by
    show W5.heap[g]? = _
    rw [← hW5, heap_setCell_other (by exact Ne.symm hgM)]; exact hg4.out
  have fr5 : Fr (fun k => k = M ∨ k = g) w W5 := by rw [← hW5]; exact fr4.setCell (W := M) (.inl rfl) _ _
  clear hW5 c64 f64 c54 hN4 hM4 hg4
  have c65 : W5.cell? ⟨M, 6, none⟩ = some (.int .i64 (h + 1)) := cell_of hM5 rfl
  have c55 : W5.cell? ⟨M, 5, none⟩ = some (.slice (some ⟨g, 0, none⟩) L c) := cell_of hM5 rfl
  have f65 : ∀ q, W5.frozen? ⟨M, q, none⟩ = false := fun q => free_of hM5
  have fN5 : ∀ q, W5.frozen? ⟨N, q, none⟩ = false := fun q => free_of hN5
  have n0 : W5.cell? ⟨N, 0, none⟩ = some (.int .i64 0) := cell_of (j := 0) hN5 rfl
  have n1 : W5.cell? ⟨N, 1, none⟩ = some (.string a) := cell_of (j := 1) hN5 rfl
  have n2 : W5.cell? ⟨N, 2, none⟩ = some (.string b) := cell_of (j := 2) hN5 rfl
  have n3 : W5.cell? ⟨N, 3, none⟩ = some (.int .u64 0) := cell_of (j := 3) hN5 rfl
  have n4 : W5.cell? ⟨N, 4, none⟩ = some (.int .u64 0) := cell_of (j := 4) hN5 rfl
  have n5 : W5.cell? ⟨N, 5, none⟩ = some (.int .u64 0) := cell_of (j := 5) hN5 rfl
  have n6 : W5.cell? ⟨N, 6, none⟩ = some (.int .u64 0) := cell_of (j := 6) hN5 rfl
  have n7 : W5.cell? ⟨N, 7, none⟩ = some (.int .u64 0) := cell_of (j := 7) hN5 rfl
  have n8 : W5.cell? ⟨N, 8, none⟩ = some (.string ⟨#[]⟩) := cell_of (j := 8) hN5 rfl
  have n9 : W5.cell? ⟨N, 9, none⟩ = some (.slice none 0 0) := cell_of (j := 9) hN5 rfl
  have n10 : W5.cell? ⟨N, 10, none⟩ = some (.slice none 0 0) := cell_of (j := 10) hN5 rfl
  have n11 : W5.cell? ⟨N, 11, none⟩ = some (.bool false) := cell_of (j := 11) hN5 rfl
  have n12 : W5.cell? ⟨N, 12, none⟩ = some (.bool false) := cell_of (j := 12) hN5 rfl
  by_cases hge : L ≤ 2 * (h + 1)
  · have hgb : (2 * ((h : Int) + 1) ≥ L) := by omega
    go_quiet (fail)
    go_wp2
    obtain ⟨n, hnE⟩ : ∃ n, L - (h + 1) = n := ⟨_, rfl⟩
    obtain ⟨ad, hadE, hadS⟩ : ∃ ad : Addr, (if c = h + 1 then some (⟨g, 0, none⟩ : Addr) else some ⟨g, (h + 1) * 13, none⟩) = some ad ∧ ((rowOf (ms.drop (h + 1))).length = 0 ∨ ad = ⟨g, (h + 1) * 13, none⟩) := by
      by_cases hc1 : c = h + 1
      · exact ⟨_, by rw [if_pos hc1], .inl (by rw [rowOf_length, List.length_drop]; omega)⟩
      · exact ⟨_, by rw [if_neg hc1], .inr rfl⟩
    have hi2 : ((h : Int) + 1) ≤ L := by omega
    have hi0 : (0 : Int) ≤ (h : Int) + 1 := by omega
    have hrl : (rowOf (ms.drop (h + 1))).length = n * 13 := by rw [rowOf_length, List.length_drop]; omega
    have hnm : Nat.min n L = n := Nat.min_eq_left (by omega)
    have hsrc : ∀ j u, (rowOf (ms.drop (h + 1)))[j]? = some u → W5.cell? (ad.add j) = some u := by
      intro j u hj
      have hjl : j < n * 13 := by have := (List.getElem?_eq_some_iff.1 hj).1; omega
      rcases hadS with h0 | rfl
      · omega
      · obtain ⟨hX1, hXL1⟩ := row_cut (by simpa using hcs) hLc hL hms htk he
        rw [Addr.add_mid]
        refine cell_of hg5.out ?_
        have hq : (rowOf (ms.take h ++ ((⟨#[]⟩, ⟨#[]⟩) :: ms.drop (h + 1))))[(h + 1) * 13 + j]? = some u := by
          rw [show ms.take h ++ ((⟨#[]⟩, ⟨#[]⟩) :: ms.drop (h + 1)) = (ms.take h ++ [(⟨#[]⟩, ⟨#[]⟩)]) ++ ms.drop (h + 1) by simp, rowOf_append, List.getElem?_append_right (by rw [rowOf_length]; simp; omega), rowOf_length]
          rw [show (h + 1) * 13 + j - (ms.take h ++ [((⟨#[]⟩ : ByteArray), (⟨#[]⟩ : ByteArray))]).length * 13 = j by simp; omega]
          exact hj
        rw [← hX1, List.getElem?_take_of_lt (by omega)] at hq
        simpa using hq
    have hfit7 : 0 + (rowOf (ms.drop (h + 1))).length ≤ (splice cur.toList (h * 13) zmsg).toArray.size := by
      obtain ⟨hX1, hXL1⟩ := row_cut (by simpa using hcs) hLc hL hms htk he
      rw [hrl, List.size_toArray, hXL1]; omega
    have hcs7 : (rowOf (ms.drop (h + 1))).length = Nat.min n L * 13 := by rw [hnm, hrl]
    generalize hRW : rowOf (ms.drop (h + 1)) = RW at *
    generalize hXX : splice cur.toList (h * 13) zmsg = XX at *
    have hone : ∀ v ∈ RW, v.oneCell' = true := by rw [← hRW]; exact rowOf_one _
    go_region_law (refine step_copy_rows rfl _ _ 33 33 rfl 49 13 Yba.underlying33 hi49 g 0 L c ad n (c - (h + 1)) rfl rfl _ 49 hg5.out RW hcs7 hsrc hfit7 hone ?_; intro W7 hg7 hf7)
    all_goals
      have hM7 := (hf7.block M (lt_of_some hM5) (Ne.symm hgM)).trans hM5
      have hN7 := (hf7.block N (lt_of_some hN5) hgN).trans hN5
      have fr7 : Fr (fun k => k = M ∨ k = g) w W7 := (fr5.drewN _).trans (hf7.mono (fun k _ e => .inr e))
      clear hf7
      have c57 : W7.cell? ⟨M, 5, none⟩ = some (.slice (some ⟨g, 0, none⟩) L c) := cell_of hM7 rfl
      have hj1 : (n : Int) ≤ L := by omega
      have hj2 : ¬ (c = n) := by omega
      have hXn : XX.length = c * 13 := by rw [← hXX]; exact (row_cut (by simpa using hcs) hLc hL hms htk he).2
      have hYn : (splice XX.toArray.toList 0 RW).length = c * 13 := by
        rw [splice_len _ _ _ (by simpa using hfit7)]; simpa using hXn
      have hfit8 : n * 13 + (L - n) * (Value.agg zmsg.toArray).cells.size ≤ (splice XX.toArray.toList 0 RW).toArray.size := by
        show n * 13 + (L - n) * 13 ≤ _
        rw [List.size_toArray, hYn]; omega
      have hMN : ¬ M = N := by omega
      have hNM : ¬ N = M := by omega
      go_wp2_with (first | (refine wpList_clear_row rfl _ 33 rfl 49 (.agg zmsg.toArray) (Yba.zeroValue49 _) Yba.underlying33 g (n * 13) (L - n) (c - n) rfl _ 49 hg7.out (by omega) hfit8 (zeroCells_one _) ?_; intro W8 hg8 hf8; have hM8 := (hf8.block M (lt_of_some hM7) (Ne.symm hgM)).trans hM7; have hN8 := (hf8.block N (lt_of_some hN7) hgN).trans hN7; have c58 : W8.cell? ⟨M, 5, none⟩ = some (.slice (some ⟨g, 0, none⟩) L c) := cell_of hM8 rfl; have c68 : W8.cell? ⟨M, 6, none⟩ = some (.int .i64 (h + 1)) := cell_of hM8 rfl; have f8 : ∀ q, W8.frozen? ⟨M, q, none⟩ = false := (fun q => free_of hM8); have r0 : W8.cell? ⟨N, 0, none⟩ = some (.int .i64 0) := cell_of (j := 0) hN8 rfl; have r1 : W8.cell? ⟨N, 1, none⟩ = some (.string a) := cell_of (j := 1) hN8 rfl; have r2 : W8.cell? ⟨N, 2, none⟩ = some (.string b) := cell_of (j := 2) hN8 rfl; have r3 : W8.cell? ⟨N, 3, none⟩ = some (.int .u64 0) := cell_of (j := 3) hN8 rfl; have r4 : W8.cell? ⟨N, 4, none⟩ = some (.int .u64 0) := cell_of (j := 4) hN8 rfl; have r5 : W8.cell? ⟨N, 5, none⟩ = some (.int .u64 0) := cell_of (j := 5) hN8 rfl; have r6 : W8.cell? ⟨N, 6, none⟩ = some (.int .u64 0) := cell_of (j := 6) hN8 rfl; have r7 : W8.cell? ⟨N, 7, none⟩ = some (.int .u64 0) := cell_of (j := 7) hN8 rfl; have r8 : W8.cell? ⟨N, 8, none⟩ = some (.string ⟨#[]⟩) := cell_of (j := 8) hN8 rfl; have r9 : W8.cell? ⟨N, 9, none⟩ = some (.slice none 0 0) := cell_of (j := 9) hN8 rfl; have r10 : W8.cell? ⟨N, 10, none⟩ = some (.slice none 0 0) := cell_of (j := 10) hN8 rfl; have r11 : W8.cell? ⟨N, 11, none⟩ = some (.bool false) := cell_of (j := 11) hN8 rfl; have r12 : W8.cell? ⟨N, 12, none⟩ = some (.bool false) := cell_of (j := 12) hN8 rfl) | (refine wpList_store_row rfl 49 _ _ rfl N 0 (msgOf a b) rfl rfl (msgOf a b).toArray 49 ((heap_setCell_other hMN).trans ((heap_setCell_other hMN).trans hN8)) (by simp [msgOf]) hi49 (msg_one a b) ?_; intro wE hE' hfE))
      generalize hW9 : World.setCell (World.setCell W8 _ _) _ _ = W9 at *
      have hM9 : W9.heap[M]? = some (.cells (tCells mu (.slice (some ⟨g, 0, none⟩) n c) 0 hm) 96 (0, 0)) := by
        rw [← hW9, heap_setCell_same (heap_setCell_same hM8)]; rfl
      have hg9 : Hid (W9.heap[g]? = some (.cells (splice (splice XX.toArray.toList 0 RW).toArray.toList (n * 13) (Builtin.zeroCells (Value.agg zmsg.toArray).cells (L - n)).toList).toArray 49 (0, 0))) := by
        show W9.heap[g]? = _
        rw [← hW9, heap_setCell_other (by exact Ne.symm hgM), heap_setCell_other (by exact Ne.symm hgM)]; exact hg8.out
      have fr9 : Fr (fun k => k = M ∨ k = g) w W9 := by
        rw [← hW9]
        exact (((fr7.trans (hf8.mono (fun k _ e => .inr e))).setCell (W := M) (.inl rfl) _ _).setCell (W := M) (.inl rfl) _ _)
      clear hW9
      have hsE : splice (msgOf a b).toArray.toList 0 (msgOf a b) = msgOf a b := rfl
      rw [hsE] at hE'
      have hE := hE'.out
      have e0 := cell_of (j := 0) hE rfl
      have e1 := cell_of (j := 1) hE rfl
      have e2 := cell_of (j := 2) hE rfl
      have e3 := cell_of (j := 3) hE rfl
      have e4 := cell_of (j := 4) hE rfl
      have e5 := cell_of (j := 5) hE rfl
      have e6 := cell_of (j := 6) hE rfl
      have e7 := cell_of (j := 7) hE rfl
      have e8 := cell_of (j := 8) hE rfl
      have e9 := cell_of (j := 9) hE rfl
      have e10 := cell_of (j := 10) hE rfl
      have e11 := cell_of (j := 11) hE rfl
      have e12 := cell_of (j := 12) hE rfl
      have hME := (hfE.block M (lt_of_some hM9) (by omega)).trans hM9
      have hgE := (hfE.block g (lt_of_some hg9.out) (by omega)).trans hg9.out
      have frE : Fr (fun k => k = M ∨ k = g) w wE := ⟨hfE.os.trans fr9.os, hfE.tape.trans fr9.tape, hfE.output.trans fr9.output, Nat.le_trans fr9.size hfE.size, fun k hk hx => (hfE.block k (Nat.lt_of_lt_of_le hk fr9.size) (by omega)).trans (fr9.block k hk hx)⟩
      refine bodyPost_ret (v := .tuple #[.agg (msgOf a b).toArray, .bool true]) (by simp [results, Yba.results23, go_sem, msgOf, e0, e1, e2, e3, e4, e5, e6, e7, e8, e9, e10, e11, e12]) rfl ?_
      refine ⟨rfl, n, 0, ms.drop (h + 1), _, hME, hgE, ?_, by rw [List.length_drop]; omega, by omega, ?_, Nat.zero_le _, rfl, frE⟩
      · rw [hRW]
        have e1 : (splice (splice XX.toArray.toList 0 RW).toArray.toList (n * 13) (Builtin.zeroCells (Value.agg zmsg.toArray).cells (L - n)).toList).take (n * 13) = (splice XX.toArray.toList 0 RW).take (n * 13) := splice_keep _ _ _ _ (Nat.le_refl _) (by rw [hYn]; omega)
        have e2 : (splice XX.toArray.toList 0 RW).take (n * 13) = RW := by rw [← hrl]; exact splice_zero _ _
        exact e1.trans e2
      · have e3 : (splice (splice XX.toArray.toList 0 RW).toArray.toList (n * 13) (Builtin.zeroCells (Value.agg zmsg.toArray).cells (L - n)).toList).length = c * 13 := by
          rw [splice_len _ _ _ (by rw [zeroCells_len, hYn]; omega), hYn]
        simpa using e3
  · have hgb : ¬ (2 * ((h : Int) + 1) ≥ L) := by omega
    go_quiet (fail)
    go_wp2_with (refine wpList_store_row rfl 49 _ _ rfl N 0 (msgOf a b) rfl rfl (msgOf a b).toArray 49 hN5 (by simp [msgOf]) hi49 (msg_one a b) ?_; intro wE hE' hfE)
    have hsE : splice (msgOf a b).toArray.toList 0 (msgOf a b) = msgOf a b := rfl
    rw [hsE] at hE'
    have hE := hE'.out
    have e0 := cell_of (j := 0) hE rfl
    have e1 := cell_of (j := 1) hE rfl
    have e2 := cell_of (j := 2) hE rfl
    have e3 := cell_of (j := 3) hE rfl
    have e4 := cell_of (j := 4) hE rfl
    have e5 := cell_of (j := 5) hE rfl
    have e6 := cell_of (j := 6) hE rfl
    have e7 := cell_of (j := 7) hE rfl
    have e8 := cell_of (j := 8) hE rfl
    have e9 := cell_of (j := 9) hE rfl
    have e10 := cell_of (j := 10) hE rfl
    have e11 := cell_of (j := 11) hE rfl
    have e12 := cell_of (j := 12) hE rfl
    have hME := (hfE.block M (lt_of_some hM5) (by omega)).trans hM5
    have hgE := (hfE.block g (lt_of_some hg5.out) (by omega)).trans hg5.out
    have frE : Fr (fun k => k = M ∨ k = g) w wE := ⟨hfE.os.trans fr5.os, hfE.tape.trans fr5.tape, hfE.output.trans fr5.output, Nat.le_trans fr5.size hfE.size, fun k hk hx => (hfE.block k (Nat.lt_of_lt_of_le hk fr5.size) (by omega)).trans (fr5.block k hk hx)⟩
    refine bodyPost_ret (v := .tuple #[.agg (msgOf a b).toArray, .bool true]) (by simp [results, Yba.results23, go_sem, msgOf, e0, e1, e2, e3, e4, e5, e6, e7, e8, e9, e10, e11, e12]) rfl ?_
    obtain ⟨hX1, hXL1⟩ := row_cut (by simpa using hcs) hLc hL hms htk he
    refine ⟨rfl, L, h + 1, ms.take h ++ ((⟨#[]⟩, ⟨#[]⟩) :: ms.drop (h + 1)), _, hME, hgE, hX1, ?_, Nat.le_refl _, by simpa using hXL1, hL, ?_, frE⟩
    · rw [List.length_append, List.length_take, List.length_cons, List.length_drop]; omega
    · rw [List.drop_append, List.drop_of_length_le (by rw [List.length_take]; omega), List.length_take, Nat.min_eq_left (by omega), show h + 1 - h = 1 by omega]; simp
end Go.Proofs.Ybulkcfri
