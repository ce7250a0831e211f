import Derived.Test.YbulkcfriPairs
import Derived.BigRegion
namespace Go.Proofs.Ybulkcfri
open Go.ChangeShapes Go.WideShapes Go.ChangeAt Go.RowKit Go.MuLone
def eqb (x y : ByteArray × ByteArray) : Bool := x.1.toList == y.1.toList && x.2.toList == y.2.toList
/-- What Hold leaves behind. -/
def Held1 (M : Nat) (hm : Value) (f : Value → Option Value) (n : Nat) (l : List (ByteArray × ByteArray)) (a b : ByteArray) (w w' : World) : Prop :=
  ∃ vq vr r g, w'.heap[M]? = some (.cells (tCells 0 vr 0 (.map (some r))) 96 (0, 0)) ∧
    w'.ownsRow w.heap.size 49 13 vq (l.filter (fun x => eqb x (a, b))).length (rowOf (l.filter (fun x => eqb x (a, b)))) ∧
    w'.ownsRow w.heap.size 49 13 vr (l.filter (fun x => !eqb x (a, b))).length (rowOf (l.filter (fun x => !eqb x (a, b)))) ∧
    (∀ k, vq.ownBlock = some k → vr.ownBlock ≠ some k) ∧
    MapIs Yba.prog 102 w' r g (n + 1) ∧ g (.agg #[.string a, .string b]) = some vq ∧ (∀ x, x ≠ .agg #[.string a, .string b] → g x = f x) ∧
    (hm = .map (some r) ∨ w.heap.size ≤ r) ∧ Fr (fun k => k = M ∨ hm = .map (some k)) w w'
theorem rowOf_append' (a b : List (ByteArray × ByteArray)) : rowOf (a ++ b) = rowOf a ++ rowOf b := by simp [rowOf]
theorem own_base {w : World} {B B' : Nat} {e : TypeId} {size n : Nat} {v : Value} {xs : List Value} (h : w.ownsRow B e size v n xs) (hB : B' ≤ B) : w.ownsRow B' e size v n xs := by
  refine ⟨h.1, ?_⟩
  rcases h.2 with hn | ⟨g, cap, cur, rfl, hb, rest⟩
  · exact .inl hn
  · exact .inr ⟨g, cap, cur, rfl, Nat.le_trans hB hb, rest⟩
theorem looks_none {w : World} {hm : Value} {f : Value → Option Value} {n : Nat} {a b : ByteArray} (ha : a.size ≤ maxLen) (hb : b.size ≤ maxLen) (hfk : f (.agg #[.string a, .string b]) = none) (hmap : (hm = .map none ∧ n = 0 ∧ f = fun _ => none) ∨ ∃ r, hm = .map (some r) ∧ MapIs Yba.prog 102 w r f n) : Looks w hm a b (.slice none 0 0) false := by
  rcases hmap with ⟨rfl, _, _⟩ | ⟨r, rfl, hmp⟩
  · exact looks_nil w ha hb
  · have := looks_map hmp ha hb
    rw [hfk] at this
    exact this
set_option maxRecDepth 100000 in
set_option maxHeartbeats 2000000 in
theorem hold_some (B M g h L c n : Nat) (hm : Value) (f : Value → Option Value) (ms : List (ByteArray × ByteArray)) (a b : ByteArray) (ha : a.size ≤ maxLen) (hb : b.size ≤ maxLen) (w : World) (hM : w.heap[M]? = some (.cells (tCells 0 (.slice (some ⟨g, 0, none⟩) L c) h hm) 96 (0, 0)))
    (hown : w.ownsRow B 49 13 (.slice (some ⟨g, 0, none⟩) L c) ms.length (rowOf ms)) (hL : h ≤ ms.length) (hL2 : ms.length < 1000000)
    (hfk : f (.agg #[.string a, .string b]) = none) (hmap : (hm = .map none ∧ n = 0 ∧ f = fun _ => none) ∨ ∃ r, hm = .map (some r) ∧ MapIs Yba.prog 102 w r f n) :
    Calls Yba.prog 15 #[.pointer (some ⟨M, 0, none⟩), .string a, .string b] w fun e w' => e = .returned (.tuple #[]) ∧ Held1 M hm f n (ms.drop h) a b w w' := by
  obtain ⟨i9, hi9, hz90, hz91, hz92⟩ := info_parts zero49
  have lM := lt_of_some hM
  have c2 : w.cell? ⟨M, 2, none⟩ = some (.int .i32 0) := cell_of hM rfl
  have hlk := looks_none ha hb hfk hmap
  have hmc : ∀ r, hm = .map (some r) → r ≠ M ∧ r < w.heap.size := by
    intro r hr
    rcases hmap with ⟨e, _, _⟩ | ⟨r', e, hmp⟩
    · rw [hr] at e; cases e
    · rw [hr] at e; cases e
      refine ⟨fun e => ?_, hmp.lt⟩
      obtain ⟨es, ck, hh, _⟩ := hmp
      rw [e, hM] at hh; cases hh
  obtain ⟨rfl, hLc, hcur⟩ : L = ms.length ∧ L ≤ c ∧ w.rangeAt g 0 (rowOf ms) := by
    rcases hown.2 with ⟨e, _⟩ | ⟨g', cap, cur, e, hb', hh, hcap, _, hsz, htk⟩
    · cases e
    · injection e with e1 e2 e3
      injection e1 with e1
      injection e1 with e1
      subst e1 e2 e3
      refine ⟨rfl, hcap, fun j u hj => ?_⟩
      have hjl := (List.getElem?_eq_some_iff.1 hj).1
      rw [rowOf_length'] at hjl
      rw [← htk, List.getElem?_take_of_lt hjl] at hj
      rw [Nat.zero_add]
      exact cell_of hh (by simpa using hj)
  have lg : g < w.heap.size := by
    obtain ⟨cu, hh⟩ := own_tag hown rfl
    exact lt_of_some hh
  have hgM : g ≠ M := by
    obtain ⟨cu, hh⟩ := own_tag hown rfl
    exact tag_ne hh hM (by decide)
  go_enter_defers Yba.func15, Yba.ntmps15
  go_wp2_with fail
  refine (lock_free muLib ⟨M, 2, none⟩ _ c2 (free_of hM)).mono ?_
  rintro e w' ⟨rfl, rfl⟩
  go_wp2
  generalize hW : World.alloc _ _ = W
  have hMW : W.heap[M]? = some (.cells (tCells 1 (.slice (some ⟨g, 0, none⟩) ms.length c) h hm) 96 (0, 0)) := by
    rw [← hW]
    exact heap_alloc_old (heap_setCell_same hM)
  have hNW : W.heap[w.heap.size]? = some (.cells #[.string a, .string b] 102 (0, 0)) := by
    rw [← hW, heap_alloc, if_pos (by rw [size_setCell])]
  have frW : Fr (· = M) w W := by rw [← hW]; exact ((Fr.refl (· = M) w).setCell (W := M) rfl _ _).alloc _
  have hrW : W.rangeAt g 0 (rowOf ms) := fun j u hj => (World.cell?_of_block (a := ⟨g, 0 + j, none⟩) (frW.block g lg hgM)).trans (hcur j u hj)
  clear hW c2
  have hsW := frW.size
  have lk : ∀ k, (Instr.lookup 94 hm (.agg #[.string a, .string b]) true).run Yba.prog (W.drewN k) = .ok (.tuple #[.slice none 0 0, .bool false]) (W.drewN k) := fun k => (hlk (W.drewN k) (fun r hr => (frW.block r (hmc r hr).2 (hmc r hr).1))).1
  have q0 := cell_of (j := 0) hNW rfl
  have q1 := cell_of (j := 1) hNW rfl
  have d5 : W.cell? ⟨M, 5, none⟩ = some (.slice (some ⟨g, 0, none⟩) ms.length c) := cell_of hMW rfl
  have d6 : W.cell? ⟨M, 6, none⟩ = some (.int .i64 h) := cell_of hMW rfl
  have d7 : W.cell? ⟨M, 7, none⟩ = some hm := cell_of hMW rfl
  go_quiet (fail)
  go_wp2
  have hi0 : (0 : Int) ≤ (h : Int) := by omega
  have hi2 : (h : Int) ≤ ms.length := by omega
  obtain ⟨ad, hadE, hadS⟩ : ∃ ad : Option Addr, (if c = h then some (⟨g, 0, none⟩ : Addr) else some ⟨g, h * 13, none⟩) = ad ∧ (ms.length - h = 0 ∨ ad = some ⟨g, h * 13, none⟩) := by
    by_cases hc1 : c = h
    · exact ⟨_, by rw [if_pos hc1], .inl (by omega)⟩
    · exact ⟨_, by rw [if_neg hc1], .inr rfl⟩
  go_quiet (fail)
  go_wp2
  generalize hW1 : World.drewN _ _ = W1
  have hb1 : Below W.heap.size W W1 := by rw [← hW1]; exact ⟨rfl, rfl, rfl, Nat.le_refl _, fun _ _ => rfl⟩
  have hl : (ms.drop h).length = ms.length - h := List.length_drop
  have hrl : ms.length - h = 0 ∨ (ad = some ⟨g, h * 13, none⟩ ∧ W1.rangeAt g (h * 13) (rowOf (ms.drop h))) := by
    rcases hadS with h0 | h1
    · exact .inl h0
    · refine .inr ⟨h1, fun j u hj => ?_⟩
      refine (World.cell?_of_block (a := ⟨g, h * 13 + j, none⟩) (hb1.block g (by omega))).trans ?_
      have := hrW (h * 13 + j) u (by
        conv => lhs; rw [← List.take_append_drop h ms]
        rw [rowOf_append', List.getElem?_append_right (by rw [rowOf_length', List.length_take]; omega), rowOf_length', List.length_take, Nat.min_eq_left hL, show h * 13 + j - h * 13 = j by omega]
        exact hj)
      rwa [Nat.zero_add] at this
  generalize hle : ms.drop h = l at *
  generalize hlL : ms.length - h = len at *
  generalize hcc : c - h = cc at *
  have hlen : len < 1000000 := by omega
  have hN1 := (hb1.block _ (lt_of_some hNW)).trans hNW
  have hM1 := (hb1.block _ (lt_of_some hMW)).trans hMW
  clear hW1 lk q0 q1 d5 d6 d7 hadE hadS hi0 hi2
  have lN1 := lt_of_some hN1
  have lM1 := lt_of_some hM1
  have hgl : len ≠ 0 → g < W1.heap.size := fun _ => Nat.lt_of_lt_of_le (by omega) hb1.size
  go_loopg [9, 10, 43] len (fun gk q r p wr => ∃ i : Nat, i ≤ len ∧ p = .int .i64 i ∧ len ≤ gk + i ∧ wr.ownsRow W1.heap.size 49 13 q ((l.take i).filter (fun x => eqb x (a, b))).length (rowOf ((l.take i).filter (fun x => eqb x (a, b)))) ∧ wr.ownsRow W1.heap.size 49 13 r ((l.take i).filter (fun x => !eqb x (a, b))).length (rowOf ((l.take i).filter (fun x => !eqb x (a, b)))) ∧ (∀ k, q.ownBlock = some k → r.ownBlock ≠ some k) ∧ Below W1.heap.size W1 wr)
  case atStart => exact ⟨0, Nat.zero_le _, rfl, by omega, World.ownsRow_nil _ _ _ _, World.ownsRow_nil _ _ _ _, (fun k e => by cases e), Below.refl _ _⟩
  case round =>
    obtain ⟨i, hile, rfl, hgk, hoq, hor, hdis, hb2⟩ := hrel
    by_cases hilt : i < len
    · have hil : (i : Int) < len := by omega
      obtain ⟨x, y, he⟩ : ∃ x y, l[i]? = some (x, y) := ⟨_, _, List.getElem?_eq_getElem (by omega)⟩
      rcases hrl with h0 | ⟨rfl, hrg⟩
      · omega
      obtain ⟨o1, ho1⟩ : ∃ o1, h * 13 + i * 13 = o1 := ⟨_, rfl⟩
      obtain ⟨N', hN'⟩ : ∃ N', wr.heap.size = N' := ⟨_, rfl⟩
      have hra : wr.rangeAt g o1 (msgOf x y) := fun j u hj => by rw [← ho1]; exact (World.cell?_of_block (a := ⟨g, h * 13 + i * 13 + j, none⟩) (hb2.block g (hgl (by omega)))).trans (range_msg hrg he j u hj)
      have k0 : wr.cell? ⟨w.heap.size, 0, none⟩ = some (.string a) := cell_of ((hb2.block _ lN1).trans hN1) rfl
      have k1 : wr.cell? ⟨w.heap.size, 1, none⟩ = some (.string b) := cell_of ((hb2.block _ lN1).trans hN1) rfl
      have hq := eql102 x y a b
      have hlq : ((l.take i).filter (fun x => eqb x (a, b))).length ≤ i := Nat.le_trans (List.length_filter_le _ _) (by rw [List.length_take]; omega)
      have hlr : ((l.take i).filter (fun x => !eqb x (a, b))).length ≤ i := Nat.le_trans (List.length_filter_le _ _) (by rw [List.length_take]; omega)
      have hs2 : W1.heap.size ≤ N' := by rw [← hN']; exact hb2.size
      generalize hFq : (l.take i).filter (fun x => eqb x (a, b)) = Fq at *
      generalize hFr : (l.take i).filter (fun x => !eqb x (a, b)) = Frr at *
      by_cases hqc : (x.toList == a.toList && y.toList == b.toList) = true
      · have hqb := hqc
        have hqb' : Hid ((x.toList == a.toList && y.toList == b.toList) = true) := hqc
        clear hqc
        go_wp2_with (first | (refine wpList_load_mid rfl 49 _ rfl g o1 rfl (msgOf x y) _ hra Yba.underlying49 rfl size49' ?_) | (refine wpList_store_row rfl 49 _ _ rfl N' 0 (msgOf x y) rfl rfl _ 49 (show (World.alloc wr _).heap[N']? = _ from by rw [heap_alloc, if_pos hN'.symm]) (by simp [msgOf]) size49' (msg_one x y) ?_; intro w2 hE' hf2; have frw : Fr (· = N') wr w2 := ((Fr.refl (· = N') wr).alloc _).trans hf2; have hE2 : w2.heap[N']? = some (.cells (msgOf x y).toArray 49 (0, 0)) := hE'.out; have e0 : w2.cell? ⟨N', 0, none⟩ = some (.int .i64 0) := cell_of (j := 0) hE2 rfl; have e1 : w2.cell? ⟨N', 1, none⟩ = some (.string x) := cell_of (j := 1) hE2 rfl; have e2 : w2.cell? ⟨N', 2, none⟩ = some (.string y) := cell_of (j := 2) hE2 rfl; have e3 : w2.cell? ⟨N', 3, none⟩ = some (.int .u64 0) := cell_of (j := 3) hE2 rfl; have e4 : w2.cell? ⟨N', 4, none⟩ = some (.int .u64 0) := cell_of (j := 4) hE2 rfl; have e5 : w2.cell? ⟨N', 5, none⟩ = some (.int .u64 0) := cell_of (j := 5) hE2 rfl; have e6 : w2.cell? ⟨N', 6, none⟩ = some (.int .u64 0) := cell_of (j := 6) hE2 rfl; have e7 : w2.cell? ⟨N', 7, none⟩ = some (.int .u64 0) := cell_of (j := 7) hE2 rfl; have e8 : w2.cell? ⟨N', 8, none⟩ = some (.string ⟨#[]⟩) := cell_of (j := 8) hE2 rfl; have e9 : w2.cell? ⟨N', 9, none⟩ = some (.slice none 0 0) := cell_of (j := 9) hE2 rfl; have e10 : w2.cell? ⟨N', 10, none⟩ = some (.slice none 0 0) := cell_of (j := 10) hE2 rfl; have e11 : w2.cell? ⟨N', 11, none⟩ = some (.bool false) := cell_of (j := 11) hE2 rfl; have e12 : w2.cell? ⟨N', 12, none⟩ = some (.bool false) := cell_of (j := 12) hE2 rfl; have k0' : w2.cell? ⟨w.heap.size, 0, none⟩ = some (.string a) := (World.cell?_of_block (a := ⟨w.heap.size, 0, none⟩) (frw.block w.heap.size (by omega) (by omega))).trans k0; have k1' : w2.cell? ⟨w.heap.size, 1, none⟩ = some (.string b) := (World.cell?_of_block (a := ⟨w.heap.size, 1, none⟩) (frw.block w.heap.size (by omega) (by omega))).trans k1; have hsw2 : N' ≤ w2.heap.size := (by rw [← hN']; exact frw.size); have hoq2 := own_fr hoq frw (fun g hg => by obtain ⟨cu, hh⟩ := own_tag hoq hg; have := lt_of_some hh; omega); have hor2 := own_fr hor frw (fun g hg => by obtain ⟨cu, hh⟩ := own_tag hor hg; have := lt_of_some hh; omega)) | (at_builtin; refine wpList_append_own_at _ rfl _ _ 33 rfl W1.heap.size 49 i9 _ 13 152 Yba.underlying33 hi9 hz90 hz91 hz92 rfl (by decide) u9 Fq.length (rowOf Fq) rfl (own_fr hoq2 ((Fr.refl (fun _ => False) w2).alloc _) (fun _ _ => id)) ⟨w2.heap.size, 0, none⟩ 1 1 (msgOf x y) rfl rfl (newsAt (show (World.alloc w2 _).heap[w2.heap.size]? = _ from by rw [heap_alloc, if_pos rfl] <;> rfl)) (msg_one x y) (by unfold maxLen; omega) (by omega) (by rw [size_alloc]; omega) ?_; intro v' w3 ho3 hg3 hn3 hat3))
        have hlt_o : ∀ k, u10.ownBlock = some k → k < w2.heap.size := fun k e => by obtain ⟨cu, hh⟩ := own_tag hor2 e; exact lt_of_some hh
        have hooo : w3.ownsRow W1.heap.size 49 13 u10 Frr.length (rowOf Frr) := (own_fr hor2 ((Fr.refl (fun _ => False) w2).alloc _) (fun _ _ => id)).kept hg3 (by
          by_cases hno : u10.ownBlock = none
          · exact .inl hno
          · refine .inr (fun e => ?_)
            cases hq9 : u9.ownBlock with
            | none => rw [hq9] at e; exact hno e
            | some k => rw [hq9] at e; exact hdis k hq9 e)
        have hB3 : Below W1.heap.size W1 w3 := by
          have f1 : Fr (fun k => W1.heap.size ≤ k) W1 wr := ⟨hb2.os, hb2.tape, hb2.output, hb2.size, fun k hk _ => hb2.block k hk⟩
          have f2 : Fr (fun k => W1.heap.size ≤ k) W1 w2 := f1.trans (frw.mono (fun k _ e => by omega))
          have f3 : Fr (fun k => W1.heap.size ≤ k) W1 w3 := (f2.alloc _).trans (Fr.of_grown hg3 (fun k e => by
            rcases hoq2.2 with ⟨h1, _⟩ | ⟨g', cap, cur, h1, h2, _⟩
            · rw [h1] at e; cases e
            · rw [h1] at e; cases e; exact h2))
          exact f3.below (Nat.le_refl _) (fun _ h => h)
        have ht1 : l.take (i + 1) = l.take i ++ [(x, y)] := by rw [List.take_add_one, he]; rfl
        go_roundg (gk - 1)
        case measure => omega
        case rel =>
          have hEq : eqb (x, y) (a, b) = true := hqb'.out
          refine ⟨i + 1, hilt, by go_num, by omega, ?_, ?_, ?_, hB3⟩
          · rw [ht1, List.filter_append, hFq, show [(x, y)].filter (fun z => eqb z (a, b)) = [(x, y)] by simp [hEq]]
            rw [rowOf_append', List.length_append]
            exact ho3
          · rw [ht1, List.filter_append, hFr, show [(x, y)].filter (fun z => !eqb z (a, b)) = [] by simp [hEq], List.append_nil]
            exact hooo
          · intro k e e2
            rcases hat3 with q | q
            · exact hdis k (by rw [← q]; exact e) e2
            · rw [q] at e; have := hlt_o k e2; have := Option.some.inj e; simp at this; omega
      · have hqb : (x.toList == a.toList && y.toList == b.toList) = false := by simpa using hqc
        have hqb' : Hid ((x.toList == a.toList && y.toList == b.toList) = false) := hqb
        clear hqc
        go_wp2_with (first | (refine wpList_load_mid rfl 49 _ rfl g o1 rfl (msgOf x y) _ hra Yba.underlying49 rfl size49' ?_) | (refine wpList_store_row rfl 49 _ _ rfl N' 0 (msgOf x y) rfl rfl _ 49 (show (World.alloc wr _).heap[N']? = _ from by rw [heap_alloc, if_pos hN'.symm]) (by simp [msgOf]) size49' (msg_one x y) ?_; intro w2 hE' hf2; have frw : Fr (· = N') wr w2 := ((Fr.refl (· = N') wr).alloc _).trans hf2; have hE2 : w2.heap[N']? = some (.cells (msgOf x y).toArray 49 (0, 0)) := hE'.out; have e0 : w2.cell? ⟨N', 0, none⟩ = some (.int .i64 0) := cell_of (j := 0) hE2 rfl; have e1 : w2.cell? ⟨N', 1, none⟩ = some (.string x) := cell_of (j := 1) hE2 rfl; have e2 : w2.cell? ⟨N', 2, none⟩ = some (.string y) := cell_of (j := 2) hE2 rfl; have e3 : w2.cell? ⟨N', 3, none⟩ = some (.int .u64 0) := cell_of (j := 3) hE2 rfl; have e4 : w2.cell? ⟨N', 4, none⟩ = some (.int .u64 0) := cell_of (j := 4) hE2 rfl; have e5 : w2.cell? ⟨N', 5, none⟩ = some (.int .u64 0) := cell_of (j := 5) hE2 rfl; have e6 : w2.cell? ⟨N', 6, none⟩ = some (.int .u64 0) := cell_of (j := 6) hE2 rfl; have e7 : w2.cell? ⟨N', 7, none⟩ = some (.int .u64 0) := cell_of (j := 7) hE2 rfl; have e8 : w2.cell? ⟨N', 8, none⟩ = some (.string ⟨#[]⟩) := cell_of (j := 8) hE2 rfl; have e9 : w2.cell? ⟨N', 9, none⟩ = some (.slice none 0 0) := cell_of (j := 9) hE2 rfl; have e10 : w2.cell? ⟨N', 10, none⟩ = some (.slice none 0 0) := cell_of (j := 10) hE2 rfl; have e11 : w2.cell? ⟨N', 11, none⟩ = some (.bool false) := cell_of (j := 11) hE2 rfl; have e12 : w2.cell? ⟨N', 12, none⟩ = some (.bool false) := cell_of (j := 12) hE2 rfl; have k0' : w2.cell? ⟨w.heap.size, 0, none⟩ = some (.string a) := (World.cell?_of_block (a := ⟨w.heap.size, 0, none⟩) (frw.block w.heap.size (by omega) (by omega))).trans k0; have k1' : w2.cell? ⟨w.heap.size, 1, none⟩ = some (.string b) := (World.cell?_of_block (a := ⟨w.heap.size, 1, none⟩) (frw.block w.heap.size (by omega) (by omega))).trans k1; have hsw2 : N' ≤ w2.heap.size := (by rw [← hN']; exact frw.size); have hoq2 := own_fr hoq frw (fun g hg => by obtain ⟨cu, hh⟩ := own_tag hoq hg; have := lt_of_some hh; omega); have hor2 := own_fr hor frw (fun g hg => by obtain ⟨cu, hh⟩ := own_tag hor hg; have := lt_of_some hh; omega)) | (at_builtin; refine wpList_append_own_at _ rfl _ _ 33 rfl W1.heap.size 49 i9 _ 13 152 Yba.underlying33 hi9 hz90 hz91 hz92 rfl (by decide) u10 Frr.length (rowOf Frr) rfl (own_fr hor2 ((Fr.refl (fun _ => False) w2).alloc _) (fun _ _ => id)) ⟨w2.heap.size, 0, none⟩ 1 1 (msgOf x y) rfl rfl (newsAt (show (World.alloc w2 _).heap[w2.heap.size]? = _ from by rw [heap_alloc, if_pos rfl] <;> rfl)) (msg_one x y) (by unfold maxLen; omega) (by omega) (by rw [size_alloc]; omega) ?_; intro v' w3 ho3 hg3 hn3 hat3))
        have hlt_o : ∀ k, u9.ownBlock = some k → k < w2.heap.size := fun k e => by obtain ⟨cu, hh⟩ := own_tag hoq2 e; exact lt_of_some hh
        have hooo : w3.ownsRow W1.heap.size 49 13 u9 Fq.length (rowOf Fq) := (own_fr hoq2 ((Fr.refl (fun _ => False) w2).alloc _) (fun _ _ => id)).kept hg3 (by
          by_cases hno : u9.ownBlock = none
          · exact .inl hno
          · refine .inr (fun e => ?_)
            cases hq9 : u10.ownBlock with
            | none => rw [hq9] at e; exact hno e
            | some k => rw [hq9] at e; exact hdis k e hq9)
        have hB3 : Below W1.heap.size W1 w3 := by
          have f1 : Fr (fun k => W1.heap.size ≤ k) W1 wr := ⟨hb2.os, hb2.tape, hb2.output, hb2.size, fun k hk _ => hb2.block k hk⟩
          have f2 : Fr (fun k => W1.heap.size ≤ k) W1 w2 := f1.trans (frw.mono (fun k _ e => by omega))
          have f3 : Fr (fun k => W1.heap.size ≤ k) W1 w3 := (f2.alloc _).trans (Fr.of_grown hg3 (fun k e => by
            rcases hor2.2 with ⟨h1, _⟩ | ⟨g', cap, cur, h1, h2, _⟩
            · rw [h1] at e; cases e
            · rw [h1] at e; cases e; exact h2))
          exact f3.below (Nat.le_refl _) (fun _ h => h)
        have ht1 : l.take (i + 1) = l.take i ++ [(x, y)] := by rw [List.take_add_one, he]; rfl
        go_roundg (gk - 1)
        case measure => omega
        case rel =>
          have hEq : eqb (x, y) (a, b) = false := hqb'.out
          refine ⟨i + 1, hilt, by go_num, by omega, ?_, ?_, ?_, hB3⟩
          · rw [ht1, List.filter_append, hFq, show [(x, y)].filter (fun z => eqb z (a, b)) = [] by simp [hEq], List.append_nil]
            exact hooo
          · rw [ht1, List.filter_append, hFr, show [(x, y)].filter (fun z => !eqb z (a, b)) = [(x, y)] by simp [hEq]]
            rw [rowOf_append', List.length_append]
            exact ho3
          · intro k e e2
            rcases hat3 with q | q
            · exact hdis k e (by rw [← q]; exact e2)
            · rw [q] at e2; have := hlt_o k e; have := Option.some.inj e2; simp at this; omega
    · have hil : ¬ (i : Int) < len := by omega
      have ei : i = len := by omega
      rw [ei, ← hl, List.take_length] at hoq hor
      have hMr := (hb2.block _ lM1).trans hM1
      have hNr := (hb2.block _ lN1).trans hN1
      have r7 : wr.cell? ⟨M, 7, none⟩ = some hm := cell_of hMr rfl
      have rf : ∀ q, wr.frozen? ⟨M, q, none⟩ = false := fun q => free_of hMr
      have frr : Fr (fun k => k = M) w wr := (frW.trans (Fr.of_below hb1 _)).trans (Fr.of_below hb2 _)
      clear hgk hile hgl hrl
      have qnil : ∀ (w : World) (r : Option Nat), (binOp .eql 94 (.map r) (.map none)).run Yba.prog w = .ok (.bool r.isNone) w := fun w r => run_eql_map_nil w _ _ _ r Yba.underlying94
      obtain ⟨aq, cq, rfl⟩ := own_slice hoq
      obtain ⟨ar, cr, rfl⟩ := own_slice hor
      obtain ⟨Fq, hFQ'⟩ : ∃ Fq, l.filter (fun x => eqb x (a, b)) = Fq := ⟨_, rfl⟩
      obtain ⟨Frr, hFR'⟩ : ∃ Frr, l.filter (fun x => !eqb x (a, b)) = Frr := ⟨_, rfl⟩
      rw [hFQ'] at hoq hdis ⊢
      rw [hFR'] at hor hdis ⊢
      have hFQ : Hid (l.filter (fun x => eqb x (a, b)) = Fq) := hFQ'
      have hFR : Hid (l.filter (fun x => !eqb x (a, b)) = Frr) := hFR'
      clear hFQ' hFR'
      have hB1 : w.heap.size ≤ W1.heap.size := Nat.le_trans hsW hb1.size
      rcases hmap with ⟨rfl, hn0', hf0'⟩ | ⟨R, rfl, hmp⟩
      · have hn0 : Hid (n = 0) := hn0'
        have hf0 : Hid (f = fun _ => none) := hf0'
        clear hn0' hf0'
        have rc2 : (wr.alloc (.map #[] 0)).cell? ⟨M, 7, none⟩ = some (.map none) := cell_of (heap_alloc_old hMr) rfl
        have rf2 : (wr.alloc (.map #[] 0)).frozen? ⟨M, 7, none⟩ = false := free_of (heap_alloc_old hMr)
        have hmk : ∀ w, (Instr.makeMap 94 none).run Yba.prog w = .ok (.map (some w.heap.size)) (w.alloc (.map #[] 0)) := fun _ => rfl
        have hrne : ¬ wr.heap.size = M := fun e => by have := lt_of_some hMr; omega
        go_wp2
        generalize hR : wr.heap.size = R at *
        generalize hX : World.setCell (World.alloc wr _) _ _ = X
        have hMX : X.heap[M]? = some (.cells (tCells 1 (.slice (some ⟨g, 0, none⟩) ms.length c) h (.map (some R))) 96 (0, 0)) := by
          rw [← hX, heap_setCell_same (heap_alloc_old hMr)]; rfl
        have hmX : MapIs Yba.prog 102 X R f n := by
          rw [hf0.out, hn0.out]
          exact MapIs.empty 102 (clock := 0) (by rw [← hX, heap_setCell_other (by exact Ne.symm hrne), heap_alloc, if_pos hR.symm])
        have frwX : Fr (· = M) wr X := by rw [← hX]; exact ((Fr.refl (· = M) wr).alloc _).setCell (W := M) rfl _ _
        have hNX := (frwX.block _ (lt_of_some hNr) (by omega)).trans hNr
        have hoqX := own_fr hoq frwX (fun k hk => by obtain ⟨cu, hh⟩ := own_tag hoq hk; exact tag_ne hh hMr (by decide))
        have horX := own_fr hor frwX (fun k hk => by obtain ⟨cu, hh⟩ := own_tag hor hk; exact tag_ne hh hMr (by decide))
        have frX := frr.trans frwX
        have hRw : w.heap.size ≤ R := by rw [← hR]; exact frr.size
        clear hX hR r7 rf rf2 rc2
        have l5 : X.cell? ⟨M, 5, none⟩ = some (.slice (some ⟨g, 0, none⟩) ms.length c) := cell_of hMX rfl
        have l7 : X.cell? ⟨M, 7, none⟩ = some (.map (some R)) := cell_of hMX rfl
        have p0 := cell_of (j := 0) hNX rfl
        have p1 := cell_of (j := 1) hNX rfl
        obtain ⟨lit, hkey⟩ := key102 ha hb
        obtain ⟨w4, g4, s4, hent, hmp4, hgx4, hgr4, hs4, hst⟩ := (hmX.drew).entry law102 Yba.underlying94 (Yba.zeroValue33 _) hkey
        rw [hfk] at hent
        obtain ⟨w5, g5, hst5, hmp5, hg5k, hg5x, hgr5, hs5⟩ := hst w4 (.slice aq Fq.length cq) rfl
        rw [hfk] at hmp5
        clear hst
        have hRM : R ≠ M := fun e => by
          obtain ⟨es, ck, hh, _⟩ := hmX
          rw [e, hMX] at hh; cases hh
        have hM4 := (hgr4.block M (lt_of_some hMX) (fun e => hRM (Option.some.inj e).symm)).trans hMX
        have hM5 := (hgr5.block M (lt_of_some hM4) (fun e => hRM (Option.some.inj e).symm)).trans hM4
        have m5 : w5.cell? ⟨M, 5, none⟩ = some (.slice (some ⟨g, 0, none⟩) ms.length c) := cell_of hM5 rfl
        have m6 : w5.cell? ⟨M, 6, none⟩ = some (.int .i64 h) := cell_of hM5 rfl
        have mf : ∀ q, w5.frozen? ⟨M, q, none⟩ = false := fun q => free_of hM5
        have fr5 : Fr (· = R) X w5 := ((Fr.refl (· = R) X).drew.trans (Fr.of_grown hgr4 (fun k e => (Option.some.inj e).symm))).trans (Fr.of_grown hgr5 (fun k e => (Option.some.inj e).symm))
        have hneR : ∀ (v : Value) (q : List (ByteArray × ByteArray)), X.ownsRow W1.heap.size 49 13 v q.length (rowOf q) → w5.ownsRow W1.heap.size 49 13 v q.length (rowOf q) := fun v q ho => own_fr ho fr5 (fun k hk e => by
          obtain ⟨cu, hh⟩ := own_tag ho hk
          obtain ⟨es, ck, hh2, _⟩ := hmX
          rw [← e, hh] at hh2; cases hh2)
        have hoq5 := hneR _ _ hoqX
        have hor5 := hneR _ _ horX
        refine wp_region_noPanic ?_
        go_region_law (fail)
        all_goals
          refine NoPanic.normal ?_
          generalize hY : World.setCell (World.setCell w5 _ _) _ _ = Y
          have hMY : Y.heap[M]? = some (.cells (tCells 1 (.slice ar Frr.length cr) 0 (.map (some R))) 96 (0, 0)) := by
            rw [← hY, heap_setCell_same (heap_setCell_same hM5)]; rfl
          have frY : Fr (· = M) w5 Y := by rw [← hY]; exact ((Fr.refl (· = M) w5).setCell (W := M) rfl _ _).setCell (W := M) rfl _ _
          clear hY
          refine leaves_cons (f := 22) (args := #[.pointer (some ⟨M, 2, none⟩)]) (by simp) (by simp [go_sem]) ?_
          refine (unlock_deferred muLib ⟨M, 2, none⟩ .returning _ (cell_of hMY rfl) (free_of hMY)).mono ?_
          rintro e u' w'' ⟨rfl, rfl, rfl⟩
          have frZ : Fr (· = M) w5 (Y.setCell ⟨M, 2, none⟩ (.int .i32 0)) := frY.setCell (W := M) rfl _ _
          have hneM : ∀ (v : Value) (q : List (ByteArray × ByteArray)), w5.ownsRow W1.heap.size 49 13 v q.length (rowOf q) → (Y.setCell ⟨M, 2, none⟩ (.int .i32 0)).ownsRow w.heap.size 49 13 v q.length (rowOf q) := fun v q ho => own_base (own_fr ho frZ (fun k hk => by
            obtain ⟨cu, hh⟩ := own_tag ho hk
            exact tag_ne hh hM5 (by decide))) (by omega)
          refine ⟨_, results_none rfl _ _ _, rfl, .slice aq Fq.length cq, .slice ar Frr.length cr, R, g5, by rw [heap_setCell_same hMY]; rfl, ?_, ?_, hdis, ?_, hg5k, hg5x, .inr (by omega), ?_⟩
          · rw [hle, hFQ.out]; exact hneM _ _ hoq5
          · rw [hle, hFR.out]; exact hneM _ _ hor5
          · exact hmp5.of_block (frZ.block R hmp5.lt hRM)
          · have f1 : Fr (fun k => k = M ∨ k = R) w X := frX.mono (fun k _ e => .inl e)
            have f2 : Fr (fun k => k = M ∨ k = R) w w5 := f1.trans (fr5.mono (fun k _ e => .inr e))
            have f3 : Fr (fun k => k = M ∨ k = R) w (Y.setCell ⟨M, 2, none⟩ (.int .i32 0)) := f2.trans (frZ.mono (fun k _ e => .inl e))
            exact f3.mono (fun k hk e => by rcases e with e | e; exact .inl e; omega)

      · go_wp2
        have hmX : MapIs Yba.prog 102 wr R f n := hmp.of_block (frr.block R hmp.lt (hmc R rfl).1)
        have hMX := hMr
        have hNX := hNr
        have hoqX := hoq
        have horX := hor
        have frX := frr
        clear r7 rf hMr hNr frr
        generalize hX : wr = X at *
        have l5 : X.cell? ⟨M, 5, none⟩ = some (.slice (some ⟨g, 0, none⟩) ms.length c) := cell_of hMX rfl
        have l7 : X.cell? ⟨M, 7, none⟩ = some (.map (some R)) := cell_of hMX rfl
        have p0 := cell_of (j := 0) hNX rfl
        have p1 := cell_of (j := 1) hNX rfl
        obtain ⟨lit, hkey⟩ := key102 ha hb
        obtain ⟨w4, g4, s4, hent, hmp4, hgx4, hgr4, hs4, hst⟩ := (hmX.drew).entry law102 Yba.underlying94 (Yba.zeroValue33 _) hkey
        rw [hfk] at hent
        obtain ⟨w5, g5, hst5, hmp5, hg5k, hg5x, hgr5, hs5⟩ := hst w4 (.slice aq Fq.length cq) rfl
        rw [hfk] at hmp5
        clear hst
        have hRM : R ≠ M := fun e => by
          obtain ⟨es, ck, hh, _⟩ := hmX
          rw [e, hMX] at hh; cases hh
        have hM4 := (hgr4.block M (lt_of_some hMX) (fun e => hRM (Option.some.inj e).symm)).trans hMX
        have hM5 := (hgr5.block M (lt_of_some hM4) (fun e => hRM (Option.some.inj e).symm)).trans hM4
        have m5 : w5.cell? ⟨M, 5, none⟩ = some (.slice (some ⟨g, 0, none⟩) ms.length c) := cell_of hM5 rfl
        have m6 : w5.cell? ⟨M, 6, none⟩ = some (.int .i64 h) := cell_of hM5 rfl
        have mf : ∀ q, w5.frozen? ⟨M, q, none⟩ = false := fun q => free_of hM5
        have fr5 : Fr (· = R) X w5 := ((Fr.refl (· = R) X).drew.trans (Fr.of_grown hgr4 (fun k e => (Option.some.inj e).symm))).trans (Fr.of_grown hgr5 (fun k e => (Option.some.inj e).symm))
        have hneR : ∀ (v : Value) (q : List (ByteArray × ByteArray)), X.ownsRow W1.heap.size 49 13 v q.length (rowOf q) → w5.ownsRow W1.heap.size 49 13 v q.length (rowOf q) := fun v q ho => own_fr ho fr5 (fun k hk e => by
          obtain ⟨cu, hh⟩ := own_tag ho hk
          obtain ⟨es, ck, hh2, _⟩ := hmX
          rw [← e, hh] at hh2; cases hh2)
        have hoq5 := hneR _ _ hoqX
        have hor5 := hneR _ _ horX
        refine wp_region_noPanic ?_
        go_region_law (fail)
        all_goals
          refine NoPanic.normal ?_
          generalize hY : World.setCell (World.setCell w5 _ _) _ _ = Y
          have hMY : Y.heap[M]? = some (.cells (tCells 1 (.slice ar Frr.length cr) 0 (.map (some R))) 96 (0, 0)) := by
            rw [← hY, heap_setCell_same (heap_setCell_same hM5)]; rfl
          have frY : Fr (· = M) w5 Y := by rw [← hY]; exact ((Fr.refl (· = M) w5).setCell (W := M) rfl _ _).setCell (W := M) rfl _ _
          clear hY
          refine leaves_cons (f := 22) (args := #[.pointer (some ⟨M, 2, none⟩)]) (by simp) (by simp [go_sem]) ?_
          refine (unlock_deferred muLib ⟨M, 2, none⟩ .returning _ (cell_of hMY rfl) (free_of hMY)).mono ?_
          rintro e u' w'' ⟨rfl, rfl, rfl⟩
          have frZ : Fr (· = M) w5 (Y.setCell ⟨M, 2, none⟩ (.int .i32 0)) := frY.setCell (W := M) rfl _ _
          have hneM : ∀ (v : Value) (q : List (ByteArray × ByteArray)), w5.ownsRow W1.heap.size 49 13 v q.length (rowOf q) → (Y.setCell ⟨M, 2, none⟩ (.int .i32 0)).ownsRow w.heap.size 49 13 v q.length (rowOf q) := fun v q ho => own_base (own_fr ho frZ (fun k hk => by
            obtain ⟨cu, hh⟩ := own_tag ho hk
            exact tag_ne hh hM5 (by decide))) (by omega)
          refine ⟨_, results_none rfl _ _ _, rfl, .slice aq Fq.length cq, .slice ar Frr.length cr, R, g5, by rw [heap_setCell_same hMY]; rfl, ?_, ?_, hdis, ?_, hg5k, hg5x, .inl rfl, ?_⟩
          · rw [hle, hFQ.out]; exact hneM _ _ hoq5
          · rw [hle, hFR.out]; exact hneM _ _ hor5
          · exact hmp5.of_block (frZ.block R hmp5.lt hRM)
          · have f1 : Fr (fun k => k = M ∨ k = R) w X := frX.mono (fun k _ e => .inl e)
            have f2 : Fr (fun k => k = M ∨ k = R) w w5 := f1.trans (fr5.mono (fun k _ e => .inr e))
            have f3 : Fr (fun k => k = M ∨ k = R) w (Y.setCell ⟨M, 2, none⟩ (.int .i32 0)) := f2.trans (frZ.mono (fun k _ e => .inl e))
            exact f3.mono (fun k hk e => by rcases e with e | e; exact .inl e; exact .inr (by rw [e]))

end Go.Proofs.Ybulkcfri
