import Derived.Test.YbulkcfriPairs
namespace Go.Proofs.Ybulkcfri
open Go.ChangeShapes Go.WideShapes Go.ChangeAt Go.RowKit Go.MuLone
theorem pairRow_length (ms : List (ByteArray × ByteArray)) : (pairRow ms).length = ms.length * 2 := by
  induction ms with
  | nil => rfl
  | cons p r ih => simp only [pairRow, List.flatMap_cons, List.length_append, List.length_cons] at ih ⊢; rw [ih]; simp [pairOf]; omega
theorem pairRow_at {ms : List (ByteArray × ByteArray)} {h : Nat} {a b : ByteArray} (e : ms[h]? = some (a, b)) (j : Nat) (u : Value) (hj : (pairOf a b)[j]? = some u) : (pairRow ms)[h * 2 + j]? = some u := by
  obtain ⟨hl, he⟩ := List.getElem?_eq_some_iff.1 e
  have hj2 : j < 2 := by have := (List.getElem?_eq_some_iff.1 hj).1; simpa [pairOf] using this
  have e2 : ms = ms.take h ++ ((a, b) :: ms.drop (h + 1)) := by rw [← he]; simp
  have e3 : pairRow ms = pairRow (ms.take h) ++ (pairOf a b ++ pairRow (ms.drop (h + 1))) := by
    calc pairRow ms = pairRow (ms.take h ++ ((a, b) :: ms.drop (h + 1))) := by rw [← e2]
      _ = _ := by simp [pairRow]
  rw [e3, List.getElem?_append_right (by rw [pairRow_length, List.length_take, Nat.min_eq_left (by omega)]; omega), pairRow_length, List.length_take, Nat.min_eq_left (by omega), List.getElem?_append_left (by simp [pairOf]; omega), show h * 2 + j - h * 2 = j by omega]
  exact hj
/-- The cells of a row of pairs. -/
theorem own_pair {w : World} {base n : Nat} {v : Value} {xs : List (ByteArray × ByteArray)} (h : w.ownsRow base 108 2 v n (pairRow xs)) : n = xs.length ∧ ((v = .slice none 0 0 ∧ xs = []) ∨ ∃ g c, v = .slice (some ⟨g, 0, none⟩) n c ∧ g < w.heap.size ∧ base ≤ g ∧ ∀ i a b, xs[i]? = some (a, b) → w.cell? ⟨g, i * 2, none⟩ = some (.string a) ∧ w.cell? ⟨g, i * 2 + 1, none⟩ = some (.string b)) := by
  have hn : n = xs.length := by have := h.1; rw [pairRow_length] at this; omega
  refine ⟨hn, ?_⟩
  rcases h.2 with ⟨rfl, h0⟩ | ⟨g, cap, cur, rfl, hb, hh, hcap, _, hsz, htk⟩
  · exact .inl ⟨rfl, by rw [hn] at h0; exact List.length_eq_zero_iff.1 h0⟩
  · refine .inr ⟨g, cap, rfl, lt_of_some hh, hb, fun i a b he => ?_⟩
    have hi := (List.getElem?_eq_some_iff.1 he).1
    have key : ∀ j u, (pairOf a b)[j]? = some u → w.cell? ⟨g, i * 2 + j, none⟩ = some u := by
      intro j u hj
      have hj2 : j < 2 := by have := (List.getElem?_eq_some_iff.1 hj).1; simpa [pairOf] using this
      have h1 := pairRow_at he j u hj
      rw [← htk, List.getElem?_take_of_lt (by omega)] at h1
      exact cell_of hh (by simpa using h1)
    exact ⟨key 0 _ rfl, key 1 _ rfl⟩
set_option maxRecDepth 100000 in
set_option maxHeartbeats 1000000 in
theorem eq_same (B1 B2 n1 n2 : Nat) (x y : Value) (xs : List (ByteArray × ByteArray)) (w : World) (hx : w.ownsRow B1 108 2 x n1 (pairRow xs)) (hy : w.ownsRow B2 108 2 y n2 (pairRow xs)) (hlen : xs.length < 1000000) :
    Calls Yba.prog 13 #[x, y] w fun e w' => e = .returned (.bool true) ∧ Below w.heap.size w w' := by
  obtain ⟨rfl, hx2⟩ := own_pair hx
  obtain ⟨rfl, hy2⟩ := own_pair hy
  obtain ⟨ax, cx, hxe⟩ := own_slice hx
  obtain ⟨ay, cy, hye⟩ := own_slice hy
  subst hxe
  subst hye
  have hb0 : (((xs.length : Int)) == (xs.length : Int)) = true := by simp
  go_enter Yba.func13, Yba.ntmps13
  go_wp2
  go_loopg [13] xs.length (fun gk p wr => ∃ i : Nat, i ≤ xs.length ∧ p = .int .i64 i ∧ xs.length ≤ gk + i ∧ Below w.heap.size w wr)
  case atStart => exact ⟨0, Nat.zero_le _, rfl, by omega, Below.refl _ _⟩
  case round =>
    obtain ⟨i, hile, rfl, hgk, hb⟩ := hrel
    by_cases hilt : i < xs.length
    · have hil : (i : Int) < xs.length := by omega
      obtain ⟨a, b, he⟩ : ∃ a b, xs[i]? = some (a, b) := ⟨_, _, List.getElem?_eq_getElem hilt⟩
      rcases hx2 with ⟨_, h0⟩ | ⟨gx, cx', hx3, hgx, _, hxc⟩
      · rw [h0] at hilt; simp at hilt
      rcases hy2 with ⟨_, h0⟩ | ⟨gy, cy', hy3, hgy, _, hyc⟩
      · rw [h0] at hilt; simp at hilt
      obtain ⟨rfl, rfl⟩ : ax = some ⟨gx, 0, none⟩ ∧ cx = cx' := by injection hx3 with q1 _ q3; exact ⟨q1, q3⟩
      obtain ⟨rfl, rfl⟩ : ay = some ⟨gy, 0, none⟩ ∧ cy = cy' := by injection hy3 with q1 _ q3; exact ⟨q1, q3⟩
      have x0 := (World.cell?_of_block (a := ⟨gx, i * 2, none⟩) (hb.block gx hgx)).trans (hxc i a b he).1
      have x1 := (World.cell?_of_block (a := ⟨gx, i * 2 + 1, none⟩) (hb.block gx hgx)).trans (hxc i a b he).2
      have y0 := (World.cell?_of_block (a := ⟨gy, i * 2, none⟩) (hb.block gy hgy)).trans (hyc i a b he).1
      have y1 := (World.cell?_of_block (a := ⟨gy, i * 2 + 1, none⟩) (hb.block gy hgy)).trans (hyc i a b he).2
      clear hxc hyc hx hy he
      have hq := neq108 a b a b
      have hqb : (a.toList == a.toList && b.toList == b.toList) = true := by simp
      go_wp2
      go_quiet (fail)
      go_wp2
      go_roundg (gk - 1)
      case measure => omega
      case rel => exact ⟨i + 1, hilt, by go_num, by omega, hb.trans ⟨rfl, rfl, rfl, Nat.le_refl _, fun _ _ => rfl⟩⟩
    · have hil : ¬ (i : Int) < xs.length := by omega
      go_wp2
      go_ret
      exact ⟨rfl, hb⟩
set_option maxRecDepth 100000 in
theorem pairs_nil (c : Nat) (w : World) :
    Calls Yba.prog 10 #[.slice none 0 c] w fun e w' => ∃ v, e = .returned v ∧ w'.ownsRow w.heap.size 108 2 v 0 (pairRow []) ∧ v ≠ .slice none 0 0 ∧ Below w.heap.size w w' := by
  obtain ⟨i8, hi8, hz80, hz81, hz82⟩ := info_parts zero108
  go_enter Yba.func10, Yba.ntmps10
  go_wp2_with (at_make; refine wpList_make_own _ rfl _ _ 84 rfl w.heap.size 108 i8 _ 2 Yba.underlying84 hi8 hz80 hz81 _ _ _ 0 rfl rfl rfl (by rw [hz82]; omega) (by unfold maxLen; omega) (Nat.le_refl _) ?_; intro w1 hown hgrow)
  have hb1 : Below w.heap.size w w1 := Fr.below (Fr.of_grown hgrow (fun k e => by cases e) (X := fun _ => False)) (Nat.le_refl _) (fun _ h => h.elim)
  go_loopg [3, 11] 0 (fun _gk s p wr => p = .int .i64 0 ∧ wr.ownsRow w.heap.size 108 2 s 0 [] ∧ s ≠ .slice none 0 0 ∧ Below w.heap.size w wr)
  case atStart => exact ⟨rfl, hown, (fun e => by cases e), hb1⟩
  case round =>
    obtain ⟨rfl, ho, hnn', hb⟩ := hrel
    have hnn : Hid (u3 ≠ .slice none 0 0) := hnn'
    clear hnn'
    go_wp2
    go_ret
    exact ⟨_, rfl, ho, hnn.out, hb⟩
/-- What 'pairs' answers of a slice of messages. -/
theorem pairs_any (v : Value) (ms : List (ByteArray × ByteArray)) (w : World) (hs : Shows w v ms) (hgl : ∀ g, v.ownBlock = some g → g < w.heap.size) (hlen : ms.length < 1000000) :
    Calls Yba.prog 10 #[v] w fun e w' => ∃ v', e = .returned v' ∧ w'.ownsRow w.heap.size 108 2 v' ms.length (pairRow ms) ∧ v' ≠ .slice none 0 0 ∧ Below w.heap.size w w' := by
  rcases hs with ⟨c, rfl, rfl⟩ | ⟨g, off, c, rfl, hr⟩
  · exact pairs_nil c w
  · exact pairs_some g off c ms w hr (fun _ => hgl g rfl) hlen
end Go.Proofs.Ybulkcfri
