import Derived.Test.YbulkcfriAny
import Derived.Below
import Derived.Carry
import Derived.Laws.EntriesVeiled
namespace Go.Proofs.Ybulkcfri
open Go.ChangeShapes Go.WideShapes Go.ChangeAt Go.RowKit

/-- An empty map. -/
def Emp (w : World) (r : Nat) : Prop := w.heap[r]? = some (.map #[] 0)
theorem Emp.lt {w : World} {r : Nat} (h : Emp w r) : r < w.heap.size := (Array.getElem?_eq_some_iff.1 h).1
theorem Emp.ext {w w' : World} {r : Nat} (h : Emp w r) (hb : Below w.heap.size w w') : Emp w' r := by
  have hlt := h.lt
  unfold Emp at *
  rw [hb.block r hlt]
  exact h
theorem heap_alloc (w : World) (o : Obj) (k : Nat) : (w.alloc o).heap[k]? = if k = w.heap.size then some o else w.heap[k]? := by
  show (w.heap.push o)[k]? = _
  rw [Array.getElem?_push]
theorem below_alloc (w : World) (o : Obj) : Below w.heap.size w (w.alloc o) := (Below.refl _ _).alloc (Nat.le_refl _) o
theorem emp_alloc (w : World) : Emp (w.alloc (.map #[] 0)) w.heap.size := by
  unfold Emp
  rw [heap_alloc]
  simp
theorem lt_of_some {w : World} {r : Nat} {o : Obj} (h : w.heap[r]? = some o) : r < w.heap.size := (Array.getElem?_eq_some_iff.1 h).1

theorem newCounts_any (w : World) : Calls Yba.prog 17 #[] w fun e w' =>
    e = .returned (.agg #[.map (some (w.heap.size + 1)), .map (some (w.heap.size + 1 + 1)), .map (some (w.heap.size + 1 + 1 + 1))]) ∧ Below w.heap.size w w' ∧ Emp w' (w.heap.size + 1 + 1 + 1) := by
  have hmm := @run_makeMap Yba.prog
  go_enter Yba.func17, Yba.ntmps17
  go_wp2
  refine bodyPost_ret (v := .agg #[.map (some (w.heap.size + 1)), .map (some (w.heap.size + 1 + 1)), .map (some (w.heap.size + 1 + 1 + 1))]) (by simp [results, Yba.results17, go_sem]) rfl ⟨rfl, ?_, ?_⟩
  · exact (((below_alloc w _).alloc (by simp) _).alloc (by simp; omega) _).alloc (by simp; omega) _
  · unfold Emp
    rw [heap_alloc]
    simp

/-- The cells of a new site. -/
def siteCells (name : ByteArray) (fn : Value) (q : Nat → Nat) (r7 r17 r18 r19 : Nat) : Array Value :=
  #[.string name, .nilIface, .map (some (q 2)), .bool false, .bool false, .map (some (q 5)), .map (some (q 6)), .map (some r7), .int .u64 0, .int .u64 0, .int .u64 0, .map (some (q 11)), .map (some (q 12)), .map (some (q 13)), .map (some (q 14)), .map (some (q 15)), .bool false, .map (some r17), .map (some r18), .map (some r19), .map (some (q 20)), fn, .map (some (q 22)), .map (some (q 23)), .slice none 0 0, .slice none 0 0]

/-- Four empty maps, no two of them one. -/
def Four (O : Nat) (w : World) (r7 r17 r18 r19 : Nat) : Prop := (O < r7 ∧ O < r17 ∧ O < r18 ∧ O < r19) ∧ Emp w r7 ∧ Emp w r17 ∧ Emp w r18 ∧ Emp w r19 ∧ r7 ≠ r17 ∧ r7 ≠ r18 ∧ r7 ≠ r19 ∧ r17 ≠ r18 ∧ r17 ≠ r19 ∧ r18 ≠ r19
theorem Four.ext {O : Nat} {w w' : World} {a b c d : Nat} (h : Four O w a b c d) (hb : Below w.heap.size w w') : Four O w' a b c d :=
  ⟨h.1, h.2.1.ext hb, h.2.2.1.ext hb, h.2.2.2.1.ext hb, h.2.2.2.2.1.ext hb, h.2.2.2.2.2⟩

/-- What the slot of operation i of 'NewSite''s literal holds. -/
def F (name : ByteArray) (O : Nat) : Nat → Value → World → Prop
  | 0, v, _ => v = .string name
  | 1, v, _ => v = .nilIface
  | 2, v, _ => v = .slice none 0 0
  | 3, v, _ => v = .int .i64 0
  | 4, v, w => ∃ r, v = .map (some r) ∧ O < r ∧ Emp w r
  | 5, v, _ => v = .pointer (some ⟨O, 0, none⟩)
  | 6, v, _ => v = .bool false
  | 7, v, _ => v = .pointer (some ⟨O, 2, none⟩)
  | 8, v, _ => v = .bool false
  | 9, v, w => ∃ r1 r2 r3, v = .agg #[.map (some r1), .map (some r2), .map (some r3)] ∧ O < r3 ∧ Emp w r3
  | 10, v, _ => v = .pointer (some ⟨O, 3, none⟩)
  | 11, v, _ => v = .int .u64 0
  | 12, v, _ => v = .pointer (some ⟨O, 3, none⟩)
  | 13, v, _ => v = .int .u64 0
  | 14, v, w => ∃ r, v = .map (some r) ∧ O < r ∧ Emp w r
  | 15, v, w => ∃ r, v = .map (some r) ∧ O < r ∧ Emp w r
  | 16, v, w => ∃ r, v = .map (some r) ∧ O < r ∧ Emp w r
  | 17, v, w => ∃ r, v = .map (some r) ∧ O < r ∧ Emp w r
  | 18, v, w => ∃ r, v = .map (some r) ∧ O < r ∧ Emp w r
  | 19, v, _ => v = .pointer (some ⟨O, 1, none⟩)
  | 20, v, _ => v = .bool false
  | 21, v, w => ∃ r, v = .map (some r) ∧ O < r ∧ Emp w r
  | 22, v, w => ∃ r, v = .map (some r) ∧ O < r ∧ Emp w r
  | 23, v, w => ∃ r, v = .map (some r) ∧ O < r ∧ Emp w r
  | 24, v, w => ∃ r, v = .map (some r) ∧ O < r ∧ Emp w r
  | 25, v, w => ∃ r, v = .map (some r) ∧ O < r ∧ Emp w r
  | 26, v, w => ∃ r, v = .map (some r) ∧ O < r ∧ Emp w r
  | 27, v, w => ∃ (q : Nat → Nat) (r7 r17 r18 r19 : Nat), v = .agg (siteCells name .nilFunc q r7 r17 r18 r19) ∧ Four O w r7 r17 r18 r19
  | 28, v, w => ∃ (q : Nat → Nat) (S r7 r17 r18 r19 : Nat), v = .pointer (some ⟨S, 0, none⟩) ∧ O < S ∧ w.heap[S]? = some (.cells (siteCells name .nilFunc q r7 r17 r18 r19) 71 (0, 0)) ∧ Four O w r7 r17 r18 r19
  | _, _, _ => True

/-- The slot of operation i names the map r (of the four that count). -/
def Ref (i : Nat) (v : Value) (r : Nat) : Prop := (i = 9 ∧ ∃ r1 r2, v = .agg #[.map (some r1), .map (some r2), .map (some r)]) ∨ ((i = 21 ∨ i = 22 ∨ i = 23) ∧ v = .map (some r))

theorem F_ext {name : ByteArray} {O i : Nat} {v : Value} {w w' : World} (hi : i < 29) (h : F name O i v w) (hb : Below w.heap.size w w') : F name O i v w' := by
  rcases (show i = 0 ∨ i = 1 ∨ i = 2 ∨ i = 3 ∨ i = 4 ∨ i = 5 ∨ i = 6 ∨ i = 7 ∨ i = 8 ∨ i = 9 ∨ i = 10 ∨ i = 11 ∨ i = 12 ∨ i = 13 ∨ i = 14 ∨ i = 15 ∨ i = 16 ∨ i = 17 ∨ i = 18 ∨ i = 19 ∨ i = 20 ∨ i = 21 ∨ i = 22 ∨ i = 23 ∨ i = 24 ∨ i = 25 ∨ i = 26 ∨ i = 27 ∨ i = 28 from by omega) with rfl | rfl | rfl | rfl | rfl | rfl | rfl | rfl | rfl | rfl | rfl | rfl | rfl | rfl | rfl | rfl | rfl | rfl | rfl | rfl | rfl | rfl | rfl | rfl | rfl | rfl | rfl | rfl | rfl
  all_goals first
    | exact h
    | (obtain ⟨r, hv, ho, hr⟩ := h; exact ⟨r, hv, ho, hr.ext hb⟩)
    | (obtain ⟨r1, r2, r3, hv, ho, hr⟩ := h; exact ⟨r1, r2, r3, hv, ho, hr.ext hb⟩)
    | (obtain ⟨q, a, b, c, d, hv, hr⟩ := h; exact ⟨q, a, b, c, d, hv, hr.ext hb⟩)
    | (obtain ⟨q, S, a, b, c, d, hv, hS, hc, hr⟩ := h; exact ⟨q, S, a, b, c, d, hv, hS, (hb.block S (lt_of_some hc)).trans hc, hr.ext hb⟩)

theorem F_ref {name : ByteArray} {O i : Nat} {v : Value} {w : World} {r : Nat} (h : F name O i v w) (hr : Ref i v r) : r < w.heap.size := by
  rcases hr with ⟨rfl, a, b, rfl⟩ | ⟨rfl | rfl | rfl, rfl⟩
  · obtain ⟨r1, r2, r3, hv, _, he⟩ := h; simp at hv; obtain ⟨_, _, rfl⟩ := hv; exact he.lt
  all_goals (obtain ⟨r1, hv, _, he⟩ := h; cases hv; exact he.lt)

/-- What holds in the midst of the literal, whatever has been done of it. -/
structure Inv (name : ByteArray) (O : Nat) (w0 : World) (listed : Array Bool) (a : Act) (w : World) : Prop where
  size : listed.size = 30
  defers : a.defers = []
  tmps : a.tmps.size = 60
  t0 : a.eval (.tmp 0) = .string name
  t1 : a.eval (.tmp 1) = .slice none 0 0
  t3 : a.eval (.tmp 3) = .nilIface
  t6 : a.eval (.tmp 6) = .pointer (some ⟨O, 0, none⟩)
  below : Below w0.heap.size w0 w
  facts : ∀ i, i < 29 → listed.getD i false = true → F name O i (a.eval (.tmp (12 + i))) w
  apart : ∀ i j r, i ≠ j → i < 29 → j < 29 → listed.getD i false = true → listed.getD j false = true → Ref i (a.eval (.tmp (12 + i))) r → Ref j (a.eval (.tmp (12 + j))) r → False
  last : listed.getD 29 false = true → F name O 28 (a.eval (.tmp 9)) w

theorem eval_put_same (a : Act) (d : Nat) (v : Value) (h : d < a.tmps.size) : (a.put (some d) v).eval (.tmp d) = v := by
  simp [Act.eval, Act.put, h]
theorem eval_put_other (a : Act) (d t : Nat) (v : Value) (h : d ≠ t) : (a.put (some d) v).eval (.tmp t) = a.eval (.tmp t) :=
  Act.eval_put (fun e he => by cases he; intro hh; cases hh; exact h rfl)
theorem tmps_put (a : Act) (d : Nat) (v : Value) : (a.put (some d) v).tmps.size = a.tmps.size := by simp [Act.put]
theorem getD_set (l : Array Bool) (i j : Nat) (h : (l.setIfInBounds i true).getD j false = true) : j = i ∨ l.getD j false = true := by
  by_cases hij : i = j
  · exact .inl hij.symm
  · rw [getD_set_ne false hij] at h; exact .inr h

theorem Inv.step {name : ByteArray} {O : Nat} {w0 : World} {listed : Array Bool} {a : Act} {w w' : World} (h : Inv name O w0 listed a w) {i : Nat} (hi : i < 29) {v : Value}
    (hb : Below w.heap.size w w') (hF : F name O i v w') (hnew : ∀ r, Ref i v r → w.heap.size ≤ r) : Inv name O w0 (listed.setIfInBounds i true) (a.put (some (12 + i)) v) w' := by
  have hsz := h.tmps
  have hn : listed.getD i false = false ∨ listed.getD i false = true := by cases listed.getD i false <;> simp
  refine ⟨by simpa using h.size, h.defers, by rw [tmps_put]; exact hsz, ?_, ?_, ?_, ?_, h.below.trans (hb.mono h.below.size), ?_, ?_, ?_⟩
  · rw [eval_put_other _ _ _ _ (by omega)]; exact h.t0
  · rw [eval_put_other _ _ _ _ (by omega)]; exact h.t1
  · rw [eval_put_other _ _ _ _ (by omega)]; exact h.t3
  · rw [eval_put_other _ _ _ _ (by omega)]; exact h.t6
  · intro j hj hl
    by_cases hji : j = i
    · subst hji; rw [eval_put_same _ _ _ (by omega)]; exact hF
    · rw [eval_put_other _ _ _ _ (by omega)]
      rcases getD_set _ _ _ hl with he | he
      · exact absurd he hji
      · exact F_ext hj (h.facts j hj he) hb
  · intro j k r hjk hj hk hlj hlk hrj hrk
    by_cases hji : j = i
    · subst hji
      rw [eval_put_same _ _ _ (by omega)] at hrj
      rw [eval_put_other _ _ _ _ (by omega)] at hrk
      rcases getD_set _ _ _ hlk with he | he
      · exact hjk he.symm
      · have := F_ref (h.facts k hk he) hrk; have := hnew r hrj; omega
    · rw [eval_put_other _ _ _ _ (by omega)] at hrj
      rcases getD_set _ _ _ hlj with he | he
      · exact hji he
      by_cases hki : k = i
      · subst hki
        rw [eval_put_same _ _ _ (by omega)] at hrk
        have := F_ref (h.facts j hj he) hrj; have := hnew r hrk; omega
      · rw [eval_put_other _ _ _ _ (by omega)] at hrk
        rcases getD_set _ _ _ hlk with he' | he'
        · exact hki he'
        · exact h.apart j k r hjk hj hk he he' hrj hrk
  · intro hl
    rw [eval_put_other _ _ _ _ (by omega)]
    rcases getD_set _ _ _ hl with he | he
    · omega
    · exact F_ext (by omega) (h.last he) hb

theorem Inv.step_last {name : ByteArray} {O : Nat} {w0 : World} {listed : Array Bool} {a : Act} {w : World} (h : Inv name O w0 listed a w) {v : Value}
    (hF : F name O 28 v w) : Inv name O w0 (listed.setIfInBounds 29 true) (a.put (some 9) v) w := by
  have hsz := h.tmps
  refine ⟨by simpa using h.size, h.defers, by rw [tmps_put]; exact hsz, ?_, ?_, ?_, ?_, h.below, ?_, ?_, ?_⟩
  · rw [eval_put_other _ _ _ _ (by omega)]; exact h.t0
  · rw [eval_put_other _ _ _ _ (by omega)]; exact h.t1
  · rw [eval_put_other _ _ _ _ (by omega)]; exact h.t3
  · rw [eval_put_other _ _ _ _ (by omega)]; exact h.t6
  · intro j hj hl
    rw [eval_put_other _ _ _ _ (by omega)]
    rcases getD_set _ _ _ hl with he | he
    · omega
    · exact h.facts j hj he
  · intro j k r hjk hj hk hlj hlk hrj hrk
    rw [eval_put_other _ _ _ _ (by omega)] at hrj hrk
    rcases getD_set _ _ _ hlj with he | he
    · omega
    rcases getD_set _ _ _ hlk with he' | he'
    · omega
    exact h.apart j k r hjk hj hk he he' hrj hrk
  · intro _
    rw [eval_put_same _ _ _ (by omega)]; exact hF
end Go.Proofs.Ybulkcfri
