import Derived.Test.YbulkcfriRowSteps
import Derived.OwnWalk
import Derived.Deep.LoopGhost
import Derived.Maps.AppendAt
namespace Go.Proofs.Ybulkcfri
open Go.ChangeShapes Go.WideShapes Go.ChangeAt Go.RowKit Go.MuLone
def pairOf (a b : ByteArray) : List Value := [.string a, .string b]
def pairRow (ms : List (ByteArray × ByteArray)) : List Value := ms.flatMap fun p => pairOf p.1 p.2
theorem zero108 : (Yba.prog.info? 108).map (fun i => (i.zero, i.size, i.bytes)) = some (some (.agg (pairOf ⟨#[]⟩ ⟨#[]⟩).toArray), 2, 32) := by kernel_rfl
theorem pair_one (a b : ByteArray) : ∀ u ∈ pairOf a b, u.oneCell' = true := by
  intro u hu
  simp [pairOf] at hu
  rcases hu with rfl | rfl <;> rfl
/-- The row that a slice shows. -/
def Shows (w : World) (v : Value) (ms : List (ByteArray × ByteArray)) : Prop := (∃ c, v = .slice none 0 c ∧ ms = []) ∨ ∃ g off c, v = .slice (some ⟨g, off, none⟩) ms.length c ∧ w.rangeAt g off (rowOf ms)
theorem rowOf_length' (ms : List (ByteArray × ByteArray)) : (rowOf ms).length = ms.length * 13 := by
  induction ms with
  | nil => rfl
  | cons p r ih => simp only [rowOf, List.flatMap_cons, List.length_append, List.length_cons] at ih ⊢; rw [ih]; simp [msgOf]; omega
theorem rowOf_split' {ms : List (ByteArray × ByteArray)} {h : Nat} {a b : ByteArray} (e : ms[h]? = some (a, b)) : rowOf ms = rowOf (ms.take h) ++ (msgOf a b ++ rowOf (ms.drop (h + 1))) := by
  obtain ⟨hl, he⟩ := List.getElem?_eq_some_iff.1 e
  have : ms = ms.take h ++ ((a, b) :: ms.drop (h + 1)) := by
    rw [← he]; simp
  calc rowOf ms = rowOf (ms.take h ++ ((a, b) :: ms.drop (h + 1))) := by rw [← this]
    _ = _ := by simp [rowOf]
theorem range_msg {w : World} {g off h : Nat} {ms : List (ByteArray × ByteArray)} {a b : ByteArray} (hr : w.rangeAt g off (rowOf ms)) (e : ms[h]? = some (a, b)) : w.rangeAt g (off + h * 13) (msgOf a b) := by
  intro j u hj
  have hh : h < ms.length := (List.getElem?_eq_some_iff.1 e).1
  have hj13 : j < 13 := by have := (List.getElem?_eq_some_iff.1 hj).1; simpa [msgOf] using this
  have h1 : (rowOf ms)[h * 13 + j]? = some u := by
    rw [rowOf_split' e, List.getElem?_append_right (by rw [rowOf_length', List.length_take, Nat.min_eq_left (by omega)]; omega), rowOf_length', List.length_take, Nat.min_eq_left (by omega), List.getElem?_append_left (by simp [msgOf]; omega), show h * 13 + j - h * 13 = j by omega]
    exact hj
  have := hr _ _ h1
  rwa [show off + (h * 13 + j) = off + h * 13 + j by omega] at this
theorem size49' : (Yba.prog.info? 49).map (·.size) = some 13 := by
  have := zero49
  cases hq : Yba.prog.info? 49 with
  | none => simp [hq] at this
  | some i => simp [hq] at this ⊢; exact this.2.1
set_option maxRecDepth 100000 in
set_option maxHeartbeats 1000000 in
theorem pairs_some (g off c : Nat) (ms : List (ByteArray × ByteArray)) (w : World) (hr : w.rangeAt g off (rowOf ms)) (hgl : ms.length ≠ 0 → g < w.heap.size) (hlen : ms.length < 1000000) :
    Calls Yba.prog 10 #[.slice (some ⟨g, off, none⟩) ms.length c] w fun e w' => ∃ v, e = .returned v ∧ w'.ownsRow w.heap.size 108 2 v ms.length (pairRow ms) ∧ v ≠ .slice none 0 0 ∧ Below w.heap.size w w' := by
  obtain ⟨i8, hi8, hz80, hz81, hz82⟩ := info_parts zero108
  go_enter Yba.func10, Yba.ntmps10
  go_wp2_with (at_make; refine wpList_make_own _ rfl _ _ 84 rfl w.heap.size 108 i8 _ 2 Yba.underlying84 hi8 hz80 hz81 _ _ _ ms.length rfl rfl rfl (by rw [hz82]; omega) (by unfold maxLen; omega) (Nat.le_refl _) ?_; intro w1 hown hgrow)
  have hwl := hgrow.size
  have hb1 : Below w.heap.size w w1 := Fr.below (Fr.of_grown hgrow (fun k e => by cases e) (X := fun _ => False)) (Nat.le_refl _) (fun _ h => h.elim)
  have hv0 : (Value.slice (some ⟨w.heap.size, 0, none⟩) 0 ms.length) ≠ .slice none 0 0 := by intro e; cases e
  generalize (Value.slice (some ⟨w.heap.size, 0, none⟩) 0 ms.length) = v0 at *
  go_loopg [3, 11] ms.length (fun gk s p wr => ∃ i : Nat, i ≤ ms.length ∧ p = .int .i64 i ∧ ms.length ≤ gk + i ∧ wr.ownsRow w.heap.size 108 2 s i (pairRow (ms.take i)) ∧ s ≠ .slice none 0 0 ∧ Below w.heap.size w wr)
  case atStart => exact ⟨0, Nat.zero_le _, rfl, by omega, hown, hv0, hb1⟩
  case round =>
    obtain ⟨i, hile, rfl, hgk, ho, hnn', hb⟩ := hrel
    have hnn : Hid (u3 ≠ .slice none 0 0) := hnn'
    clear hnn' hv0
    by_cases hilt : i < ms.length
    · have hil : (i : Int) < ms.length := by omega
      obtain ⟨a, b, he⟩ : ∃ a b, ms[i]? = some (a, b) := ⟨_, _, List.getElem?_eq_getElem hilt⟩
      have hra : wr.rangeAt g (off + i * 13) (msgOf a b) := fun j u hj => (World.cell?_of_block (a := ⟨g, off + i * 13 + j, none⟩) (hb.block g (hgl (by omega)))).trans (range_msg hr he j u hj)
      have hbs := hb.size
      go_wp2_with (first | (refine wpList_load_mid rfl 49 _ rfl g (off + i * 13) rfl (msgOf a b) _ hra Yba.underlying49 rfl size49' ?_) | (refine wpList_store_row rfl 49 _ _ rfl wr.heap.size 0 (msgOf a b) rfl rfl _ 49 (show (World.alloc wr _).heap[wr.heap.size]? = _ from by rw [heap_alloc, if_pos rfl]) (by simp [msgOf]) size49' (msg_one a b) ?_; intro w2 hE' hf2; have e1 : w2.cell? ⟨wr.heap.size, 1, none⟩ = some (.string a) := cell_of hE'.out rfl; have e2 : w2.cell? ⟨wr.heap.size, 2, none⟩ = some (.string b) := cell_of hE'.out rfl; have frw : Fr (· = wr.heap.size) wr w2 := ((Fr.refl (· = wr.heap.size) wr).alloc _).trans hf2; have how2 := own_fr ho frw (fun g hg => by obtain ⟨cu, hh⟩ := own_tag ho hg; have := lt_of_some hh; omega); have hsw2 := frw.size) | (at_builtin; refine wpList_append_own_at _ rfl _ _ 84 rfl w.heap.size 108 i8 _ 2 32 Yba.underlying84 hi8 hz80 hz81 hz82 rfl (by decide) u3 i (pairRow (ms.take i)) rfl (own_fr how2 ((Fr.refl (fun _ => False) w2).alloc _) (fun _ _ => id)) ⟨w2.heap.size, 0, none⟩ 1 1 (pairOf a b) rfl rfl (newsAt (show (World.alloc w2 _).heap[w2.heap.size]? = _ from by rw [heap_alloc, if_pos rfl]; rfl)) (pair_one a b) (by unfold maxLen; omega) (by omega) (by rw [size_alloc]; omega) ?_; intro v' w3 ho3 hg3 hn3 hat3))
      go_roundg (gk - 1)
      case measure => omega
      case rel =>
        refine ⟨i + 1, hilt, by go_num, by omega, ?_, (fun e => hnn.out (hn3.1 e).1), ?_⟩
        · have ep : pairRow (ms.take (i + 1)) = pairRow (ms.take i) ++ pairOf a b := by
            rw [List.take_add_one, he]; simp [pairRow]
          rw [ep]; exact ho3
        · have f3 : Fr (fun k => w.heap.size ≤ k) w w3 := by
            have f1 : Fr (fun k => w.heap.size ≤ k) w wr := ⟨hb.os, hb.tape, hb.output, hb.size, fun k hk _ => hb.block k hk⟩
            have f2 : Fr (fun k => w.heap.size ≤ k) w w2 := f1.trans (frw.mono (fun k _ e => by omega))
            refine (f2.alloc _).trans (Fr.of_grown hg3 (fun k e => ?_))
            rcases ho.2 with ⟨h1, _⟩ | ⟨g', cap, cur, h1, h2, _⟩
            · rw [h1] at e; cases e
            · rw [h1] at e; cases e; exact h2
          exact f3.below (Nat.le_refl _) (fun _ h => h)
    · have hil : ¬ (i : Int) < ms.length := by omega
      go_wp2
      go_ret
      have ei : i = ms.length := by omega
      rw [ei, List.take_length] at ho
      exact ⟨u3, rfl, ho, hnn.out, hb⟩
end Go.Proofs.Ybulkcfri
