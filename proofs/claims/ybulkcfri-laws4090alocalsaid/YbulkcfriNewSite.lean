import Derived.Test.YbulkcfriSiteInv
namespace Go.Proofs.Ybulkcfri
open Go.ChangeShapes Go.WideShapes Go.ChangeAt Go.RowKit

/-- An operation that enters a function. -/
theorem wpOp_enter {P : Program} {ops : Array Oper} {Q : Exit → Act → World → Prop} {i : Nat} {o : Oper} {K : Act → World → Prop} {a : Act} {w : World} {f : FuncId} {args : Array Value}
    (ho : ops[i]? = some o) (hg : o.guard = none) (hrun : (execOp a.eval o).run P w = .ok (.enter f args) w)
    (hc : Calls P f args w fun e w' => ∃ v, e = .returned v ∧ K (a.put o.dst v) w') : wpOp P ops Q i K a w := by
  unfold wpOp
  simp only [ho]
  rw [if_pos (by simp [Region.wanted, hg])]
  refine .inl ?_
  simp only [Oper.wp, hrun, Oper.upon]
  refine hc.mono ?_
  rintro e w' ⟨v, rfl, h⟩
  exact h

theorem arr_of_size (l : Array Value) (n : Nat) (h : l.size = n) : l = ((List.range n).map fun i => l.getD i undef).toArray := by
  subst h
  apply Array.ext
  · simp
  · intro i h1 h2
    simp [h1]
theorem arr60 (l : Array Value) (h : l.size = 60) : l = #[l.getD 0 undef, l.getD 1 undef, l.getD 2 undef, l.getD 3 undef, l.getD 4 undef, l.getD 5 undef, l.getD 6 undef, l.getD 7 undef, l.getD 8 undef, l.getD 9 undef, l.getD 10 undef, l.getD 11 undef, l.getD 12 undef, l.getD 13 undef, l.getD 14 undef, l.getD 15 undef, l.getD 16 undef, l.getD 17 undef, l.getD 18 undef, l.getD 19 undef, l.getD 20 undef, l.getD 21 undef, l.getD 22 undef, l.getD 23 undef, l.getD 24 undef, l.getD 25 undef, l.getD 26 undef, l.getD 27 undef, l.getD 28 undef, l.getD 29 undef, l.getD 30 undef, l.getD 31 undef, l.getD 32 undef, l.getD 33 undef, l.getD 34 undef, l.getD 35 undef, l.getD 36 undef, l.getD 37 undef, l.getD 38 undef, l.getD 39 undef, l.getD 40 undef, l.getD 41 undef, l.getD 42 undef, l.getD 43 undef, l.getD 44 undef, l.getD 45 undef, l.getD 46 undef, l.getD 47 undef, l.getD 48 undef, l.getD 49 undef, l.getD 50 undef, l.getD 51 undef, l.getD 52 undef, l.getD 53 undef, l.getD 54 undef, l.getD 55 undef, l.getD 56 undef, l.getD 57 undef, l.getD 58 undef, l.getD 59 undef] := (arr_of_size l 60 h).trans rfl

theorem run_makeMap_hint (n : Int) (w : World) : (Instr.makeMap 52 (some (.int .i64 n))).run Yba.prog w = .ok (.map (some w.heap.size)) (w.alloc (.map #[] 0)) := by
  simp [Instr.makeMap, run_underlying Yba.underlying52, asInt, asIntOf, newObj, go_sem]
  rfl

theorem getD_replicate_false (n i : Nat) : (Array.replicate n false).getD i false = false := by
  by_cases h : i < n <;> simp [h]
theorem heap_setCell_same {w : World} {S k : Nat} {c : Array Value} {t : TypeId} {f : Nat × Nat} {v : Value} (h : w.heap[S]? = some (.cells c t f)) : (w.setCell ⟨S, k, none⟩ v).heap[S]? = some (.cells (c.setIfInBounds k v) t f) := by
  simp [World.setCell, Array.getElem?_modify, h]
theorem heap_setCell_other {w : World} {S : Nat} {a : Addr} {v : Value} (h : a.block ≠ S) : (w.setCell a v).heap[S]? = w.heap[S]? := by
  simp [World.setCell, Array.getElem?_modify, h]
theorem Emp.setCell {w : World} {r : Nat} (h : Emp w r) (a : Addr) (hne : a.block ≠ r) (v : Value) : Emp (w.setCell a v) r := by
  unfold Emp at *
  simp [World.setCell, Array.getElem?_modify, hne, h]
theorem Four.setCell {O : Nat} {w : World} {a b c d : Nat} (h : Four O w a b c d) (S : Nat) (hne : ¬ (S = a ∨ S = b ∨ S = c ∨ S = d)) {k : Nat} (v : Value) : Four O (w.setCell ⟨S, k, none⟩ v) a b c d := by
  simp only [not_or] at hne
  exact ⟨h.1, h.2.1.setCell _ hne.1 v, h.2.2.1.setCell _ hne.2.1 v, h.2.2.2.1.setCell _ hne.2.2.1 v, h.2.2.2.2.1.setCell _ hne.2.2.2 v, h.2.2.2.2.2⟩

set_option linter.unusedSimpArgs false in
set_option maxHeartbeats 8000000 in
theorem newSite_any (name : ByteArray) (w : World) :
    Calls Yba.prog 7 #[.string name, .slice none 0 0, .agg #[.bool false, .bool false, .bool false, .int .u64 0], .nilIface] w fun e w' =>
      ∃ (fn : Value) (q : Nat → Nat) (S r7 r17 r18 r19 : Nat), e = .returned (.pointer (some ⟨S, 0, none⟩)) ∧ w.heap.size < S ∧ Below w.heap.size w w' ∧ w'.heap[S]? = some (.cells (siteCells name fn q r7 r17 r18 r19) 71 (0, 0)) ∧ Four w.heap.size w' r7 r17 r18 r19 := by
  go_enter Yba.func7, Yba.ntmps7
  go_wp2
  refine wp_region_inv (by kernel_rfl) (Inv name w.heap.size (w.alloc (.cells #[.bool false, .bool false, .bool false, .int .u64 0] 26))) ?_ ?_ ?_ ?_
  · intro l a w h; exact h.size
  · intro listed a wx hI i hi
    obtain ⟨h0, o, ho, hall⟩ := mem_ready.1 hi
    have hlt : i < 30 := by have := (Array.getElem?_eq_some_iff.1 ho).1; simpa using this
    have hsz := hI.below.size
    rw [World.size_alloc] at hsz
    have cO : ∀ k, wx.cell? ⟨w.heap.size, k, none⟩ = (w.alloc (.cells #[.bool false, .bool false, .bool false, .int .u64 0] 26)).cell? ⟨w.heap.size, k, none⟩ := fun k => hI.below.cell (p := ⟨w.heap.size, k, none⟩) (by simp)
    clear hi
    rcases (show i = 0 ∨ i = 1 ∨ i = 2 ∨ i = 3 ∨ i = 4 ∨ i = 5 ∨ i = 6 ∨ i = 7 ∨ i = 8 ∨ i = 9 ∨ i = 10 ∨ i = 11 ∨ i = 12 ∨ i = 13 ∨ i = 14 ∨ i = 15 ∨ i = 16 ∨ i = 17 ∨ i = 18 ∨ i = 19 ∨ i = 20 ∨ i = 21 ∨ i = 22 ∨ i = 23 ∨ i = 24 ∨ i = 25 ∨ i = 26 ∨ i = 27 ∨ i = 28 ∨ i = 29 from by omega) with rfl | rfl | rfl | rfl | rfl | rfl | rfl | rfl | rfl | rfl | rfl | rfl | rfl | rfl | rfl | rfl | rfl | rfl | rfl | rfl | rfl | rfl | rfl | rfl | rfl | rfl | rfl | rfl | rfl | rfl
    · -- operation 0
      simp only [List.getElem?_toArray, List.getElem?_cons_zero, List.getElem?_cons_succ] at ho
      have ho' := Option.some.inj ho
      subst ho'
      exact wpOp_value ho rfl (v := .string name) (w' := wx) (by have p := hI.t0; revert p; generalize a.eval = ρ; intro p; simp [execOp, p, go_sem]) (hI.step (i := 0) (by omega) (Below.refl _ _) rfl (fun r hr => by simp [Ref] at hr))
    · -- operation 1
      simp only [List.getElem?_toArray, List.getElem?_cons_zero, List.getElem?_cons_succ] at ho
      have ho' := Option.some.inj ho
      subst ho'
      exact wpOp_value ho rfl (v := .nilIface) (w' := wx) (by have p := hI.t3; revert p; generalize a.eval = ρ; intro p; simp [execOp, p, go_sem]) (hI.step (i := 1) (by omega) (Below.refl _ _) rfl (fun r hr => by simp [Ref] at hr))
    · -- operation 2
      simp only [List.getElem?_toArray, List.getElem?_cons_zero, List.getElem?_cons_succ] at ho
      have ho' := Option.some.inj ho
      subst ho'
      exact wpOp_value ho rfl (v := .slice none 0 0) (w' := wx) (by have p := hI.t1; revert p; generalize a.eval = ρ; intro p; simp [execOp, p, go_sem]) (hI.step (i := 2) (by omega) (Below.refl _ _) rfl (fun r hr => by simp [Ref] at hr))
    · -- operation 3
      simp only [List.getElem?_toArray, List.getElem?_cons_zero, List.getElem?_cons_succ] at ho
      have ho' := Option.some.inj ho
      subst ho'
      have p2 : a.eval (.tmp 14) = .slice none 0 0 := hI.facts 2 (by omega) (hall ⟨2, .data⟩ (by simp) rfl)
      exact wpOp_value ho rfl (v := .int .i64 0) (w' := wx) (by revert p2; generalize a.eval = ρ; intro p2; simp [execOp, resolve, invoke, builtin, p2, go_sem]) (hI.step (i := 3) (by omega) (Below.refl _ _) rfl (fun r hr => by simp [Ref] at hr))
    · -- operation 4
      simp only [List.getElem?_toArray, List.getElem?_cons_zero, List.getElem?_cons_succ] at ho
      have ho' := Option.some.inj ho
      subst ho'
      have p3 : a.eval (.tmp 15) = .int .i64 0 := hI.facts 3 (by omega) (hall ⟨3, .data⟩ (by simp) rfl)
      exact wpOp_value ho rfl (v := .map (some wx.heap.size)) (w' := wx.alloc (.map #[] 0)) (by revert p3; generalize a.eval = ρ; intro p3; simp [execOp, p3, run_makeMap_hint, go_sem]) (hI.step (i := 4) (by omega) (below_alloc _ _) ⟨_, rfl, by omega, emp_alloc _⟩ (fun r hr => by simp [Ref] at hr))
    · -- operation 5
      simp only [List.getElem?_toArray, List.getElem?_cons_zero, List.getElem?_cons_succ] at ho
      have ho' := Option.some.inj ho
      subst ho'
      exact wpOp_value ho rfl (v := .pointer (some ⟨w.heap.size, 0, none⟩)) (w' := wx) (by have p := hI.t6; revert p; generalize a.eval = ρ; intro p; simp [execOp, p, go_sem]) (hI.step (i := 5) (by omega) (Below.refl _ _) rfl (fun r hr => by simp [Ref] at hr))
    · -- operation 6
      simp only [List.getElem?_toArray, List.getElem?_cons_zero, List.getElem?_cons_succ] at ho
      have ho' := Option.some.inj ho
      subst ho'
      have p5 : a.eval (.tmp 17) = .pointer (some ⟨w.heap.size, 0, none⟩) := hI.facts 5 (by omega) (hall ⟨5, .data⟩ (by simp) rfl)
      have c0 : wx.cell? ⟨w.heap.size, 0, none⟩ = some (.bool false) := by rw [cO]; simp
      exact wpOp_value ho rfl (v := .bool false) (w' := wx) (by revert p5; generalize a.eval = ρ; intro p5; simp [execOp, p5, c0, go_sem]) (hI.step (i := 6) (by omega) (Below.refl _ _) rfl (fun r hr => by simp [Ref] at hr))
    · -- operation 7
      simp only [List.getElem?_toArray, List.getElem?_cons_zero, List.getElem?_cons_succ] at ho
      have ho' := Option.some.inj ho
      subst ho'
      exact wpOp_value ho rfl (v := .pointer (some ⟨w.heap.size, 2, none⟩)) (w' := wx) (by have p := hI.t6; revert p; generalize a.eval = ρ; intro p; simp [execOp, p, go_sem]) (hI.step (i := 7) (by omega) (Below.refl _ _) rfl (fun r hr => by simp [Ref] at hr))
    · -- operation 8
      simp only [List.getElem?_toArray, List.getElem?_cons_zero, List.getElem?_cons_succ] at ho
      have ho' := Option.some.inj ho
      subst ho'
      have p7 : a.eval (.tmp 19) = .pointer (some ⟨w.heap.size, 2, none⟩) := hI.facts 7 (by omega) (hall ⟨7, .data⟩ (by simp) rfl)
      have c2 : wx.cell? ⟨w.heap.size, 2, none⟩ = some (.bool false) := by rw [cO]; simp
      exact wpOp_value ho rfl (v := .bool false) (w' := wx) (by revert p7; generalize a.eval = ρ; intro p7; simp [execOp, p7, c2, go_sem]) (hI.step (i := 8) (by omega) (Below.refl _ _) rfl (fun r hr => by simp [Ref] at hr))
    · -- operation 9
      simp only [List.getElem?_toArray, List.getElem?_cons_zero, List.getElem?_cons_succ] at ho
      have ho' := Option.some.inj ho
      subst ho'
      refine wpOp_enter (f := 17) (args := #[]) ho rfl (by simp [execOp, resolve, invoke, go_sem]) ?_
      refine (newCounts_any wx).mono ?_
      rintro e w' ⟨rfl, hb, he⟩
      exact ⟨_, rfl, hI.step (i := 9) (by omega) hb ⟨_, _, _, rfl, by omega, he⟩ (fun r hr => by simp [Ref] at hr; omega)⟩
    · -- operation 10
      simp only [List.getElem?_toArray, List.getElem?_cons_zero, List.getElem?_cons_succ] at ho
      have ho' := Option.some.inj ho
      subst ho'
      exact wpOp_value ho rfl (v := .pointer (some ⟨w.heap.size, 3, none⟩)) (w' := wx) (by have p := hI.t6; revert p; generalize a.eval = ρ; intro p; simp [execOp, p, go_sem]) (hI.step (i := 10) (by omega) (Below.refl _ _) rfl (fun r hr => by simp [Ref] at hr))
    · -- operation 11
      simp only [List.getElem?_toArray, List.getElem?_cons_zero, List.getElem?_cons_succ] at ho
      have ho' := Option.some.inj ho
      subst ho'
      have p10 : a.eval (.tmp 22) = .pointer (some ⟨w.heap.size, 3, none⟩) := hI.facts 10 (by omega) (hall ⟨10, .data⟩ (by simp) rfl)
      have c3 : wx.cell? ⟨w.heap.size, 3, none⟩ = some (.int .u64 0) := by rw [cO]; simp
      exact wpOp_value ho rfl (v := .int .u64 0) (w' := wx) (by revert p10; generalize a.eval = ρ; intro p10; simp [execOp, p10, c3, go_sem]) (hI.step (i := 11) (by omega) (Below.refl _ _) rfl (fun r hr => by simp [Ref] at hr))
    · -- operation 12
      simp only [List.getElem?_toArray, List.getElem?_cons_zero, List.getElem?_cons_succ] at ho
      have ho' := Option.some.inj ho
      subst ho'
      exact wpOp_value ho rfl (v := .pointer (some ⟨w.heap.size, 3, none⟩)) (w' := wx) (by have p := hI.t6; revert p; generalize a.eval = ρ; intro p; simp [execOp, p, go_sem]) (hI.step (i := 12) (by omega) (Below.refl _ _) rfl (fun r hr => by simp [Ref] at hr))
    · -- operation 13
      simp only [List.getElem?_toArray, List.getElem?_cons_zero, List.getElem?_cons_succ] at ho
      have ho' := Option.some.inj ho
      subst ho'
      have p12 : a.eval (.tmp 24) = .pointer (some ⟨w.heap.size, 3, none⟩) := hI.facts 12 (by omega) (hall ⟨12, .data⟩ (by simp) rfl)
      have c3 : wx.cell? ⟨w.heap.size, 3, none⟩ = some (.int .u64 0) := by rw [cO]; simp
      exact wpOp_value ho rfl (v := .int .u64 0) (w' := wx) (by revert p12; generalize a.eval = ρ; intro p12; simp [execOp, p12, c3, go_sem]) (hI.step (i := 13) (by omega) (Below.refl _ _) rfl (fun r hr => by simp [Ref] at hr))
    · -- operation 14
      simp only [List.getElem?_toArray, List.getElem?_cons_zero, List.getElem?_cons_succ] at ho
      have ho' := Option.some.inj ho
      subst ho'
      exact wpOp_value ho rfl (v := .map (some wx.heap.size)) (w' := wx.alloc (.map #[] 0)) (by simp [execOp, run_makeMap, go_sem]) (hI.step (i := 14) (by omega) (below_alloc _ _) ⟨_, rfl, by omega, emp_alloc _⟩ (fun r hr => by simp [Ref] at hr))
    · -- operation 15
      simp only [List.getElem?_toArray, List.getElem?_cons_zero, List.getElem?_cons_succ] at ho
      have ho' := Option.some.inj ho
      subst ho'
      exact wpOp_value ho rfl (v := .map (some wx.heap.size)) (w' := wx.alloc (.map #[] 0)) (by simp [execOp, run_makeMap, go_sem]) (hI.step (i := 15) (by omega) (below_alloc _ _) ⟨_, rfl, by omega, emp_alloc _⟩ (fun r hr => by simp [Ref] at hr))
    · -- operation 16
      simp only [List.getElem?_toArray, List.getElem?_cons_zero, List.getElem?_cons_succ] at ho
      have ho' := Option.some.inj ho
      subst ho'
      exact wpOp_value ho rfl (v := .map (some wx.heap.size)) (w' := wx.alloc (.map #[] 0)) (by simp [execOp, run_makeMap, go_sem]) (hI.step (i := 16) (by omega) (below_alloc _ _) ⟨_, rfl, by omega, emp_alloc _⟩ (fun r hr => by simp [Ref] at hr))
    · -- operation 17
      simp only [List.getElem?_toArray, List.getElem?_cons_zero, List.getElem?_cons_succ] at ho
      have ho' := Option.some.inj ho
      subst ho'
      exact wpOp_value ho rfl (v := .map (some wx.heap.size)) (w' := wx.alloc (.map #[] 0)) (by simp [execOp, run_makeMap, go_sem]) (hI.step (i := 17) (by omega) (below_alloc _ _) ⟨_, rfl, by omega, emp_alloc _⟩ (fun r hr => by simp [Ref] at hr))
    · -- operation 18
      simp only [List.getElem?_toArray, List.getElem?_cons_zero, List.getElem?_cons_succ] at ho
      have ho' := Option.some.inj ho
      subst ho'
      exact wpOp_value ho rfl (v := .map (some wx.heap.size)) (w' := wx.alloc (.map #[] 0)) (by simp [execOp, run_makeMap, go_sem]) (hI.step (i := 18) (by omega) (below_alloc _ _) ⟨_, rfl, by omega, emp_alloc _⟩ (fun r hr => by simp [Ref] at hr))
    · -- operation 19
      simp only [List.getElem?_toArray, List.getElem?_cons_zero, List.getElem?_cons_succ] at ho
      have ho' := Option.some.inj ho
      subst ho'
      exact wpOp_value ho rfl (v := .pointer (some ⟨w.heap.size, 1, none⟩)) (w' := wx) (by have p := hI.t6; revert p; generalize a.eval = ρ; intro p; simp [execOp, p, go_sem]) (hI.step (i := 19) (by omega) (Below.refl _ _) rfl (fun r hr => by simp [Ref] at hr))
    · -- operation 20
      simp only [List.getElem?_toArray, List.getElem?_cons_zero, List.getElem?_cons_succ] at ho
      have ho' := Option.some.inj ho
      subst ho'
      have p19 : a.eval (.tmp 31) = .pointer (some ⟨w.heap.size, 1, none⟩) := hI.facts 19 (by omega) (hall ⟨19, .data⟩ (by simp) rfl)
      have c1 : wx.cell? ⟨w.heap.size, 1, none⟩ = some (.bool false) := by rw [cO]; simp
      exact wpOp_value ho rfl (v := .bool false) (w' := wx) (by revert p19; generalize a.eval = ρ; intro p19; simp [execOp, p19, c1, go_sem]) (hI.step (i := 20) (by omega) (Below.refl _ _) rfl (fun r hr => by simp [Ref] at hr))
    · -- operation 21
      simp only [List.getElem?_toArray, List.getElem?_cons_zero, List.getElem?_cons_succ] at ho
      have ho' := Option.some.inj ho
      subst ho'
      exact wpOp_value ho rfl (v := .map (some wx.heap.size)) (w' := wx.alloc (.map #[] 0)) (by simp [execOp, run_makeMap, go_sem]) (hI.step (i := 21) (by omega) (below_alloc _ _) ⟨_, rfl, by omega, emp_alloc _⟩ (fun r hr => by simp [Ref] at hr; omega))
    · -- operation 22
      simp only [List.getElem?_toArray, List.getElem?_cons_zero, List.getElem?_cons_succ] at ho
      have ho' := Option.some.inj ho
      subst ho'
      exact wpOp_value ho rfl (v := .map (some wx.heap.size)) (w' := wx.alloc (.map #[] 0)) (by simp [execOp, run_makeMap, go_sem]) (hI.step (i := 22) (by omega) (below_alloc _ _) ⟨_, rfl, by omega, emp_alloc _⟩ (fun r hr => by simp [Ref] at hr; omega))
    · -- operation 23
      simp only [List.getElem?_toArray, List.getElem?_cons_zero, List.getElem?_cons_succ] at ho
      have ho' := Option.some.inj ho
      subst ho'
      exact wpOp_value ho rfl (v := .map (some wx.heap.size)) (w' := wx.alloc (.map #[] 0)) (by simp [execOp, run_makeMap, go_sem]) (hI.step (i := 23) (by omega) (below_alloc _ _) ⟨_, rfl, by omega, emp_alloc _⟩ (fun r hr => by simp [Ref] at hr; omega))
    · -- operation 24
      simp only [List.getElem?_toArray, List.getElem?_cons_zero, List.getElem?_cons_succ] at ho
      have ho' := Option.some.inj ho
      subst ho'
      exact wpOp_value ho rfl (v := .map (some wx.heap.size)) (w' := wx.alloc (.map #[] 0)) (by simp [execOp, run_makeMap, go_sem]) (hI.step (i := 24) (by omega) (below_alloc _ _) ⟨_, rfl, by omega, emp_alloc _⟩ (fun r hr => by simp [Ref] at hr))
    · -- operation 25
      simp only [List.getElem?_toArray, List.getElem?_cons_zero, List.getElem?_cons_succ] at ho
      have ho' := Option.some.inj ho
      subst ho'
      exact wpOp_value ho rfl (v := .map (some wx.heap.size)) (w' := wx.alloc (.map #[] 0)) (by simp [execOp, run_makeMap, go_sem]) (hI.step (i := 25) (by omega) (below_alloc _ _) ⟨_, rfl, by omega, emp_alloc _⟩ (fun r hr => by simp [Ref] at hr))
    · -- operation 26
      simp only [List.getElem?_toArray, List.getElem?_cons_zero, List.getElem?_cons_succ] at ho
      have ho' := Option.some.inj ho
      subst ho'
      exact wpOp_value ho rfl (v := .map (some wx.heap.size)) (w' := wx.alloc (.map #[] 0)) (by simp [execOp, run_makeMap, go_sem]) (hI.step (i := 26) (by omega) (below_alloc _ _) ⟨_, rfl, by omega, emp_alloc _⟩ (fun r hr => by simp [Ref] at hr))
    · -- operation 27
      simp only [List.getElem?_toArray, List.getElem?_cons_zero, List.getElem?_cons_succ] at ho
      have ho' := Option.some.inj ho
      subst ho'
      have p0 := hI.facts 0 (by omega) (hall ⟨0, .data⟩ (by simp) rfl)
      have p1 := hI.facts 1 (by omega) (hall ⟨1, .data⟩ (by simp) rfl)
      have p4 := hI.facts 4 (by omega) (hall ⟨4, .data⟩ (by simp) rfl)
      have p6 := hI.facts 6 (by omega) (hall ⟨6, .data⟩ (by simp) rfl)
      have p8 := hI.facts 8 (by omega) (hall ⟨8, .data⟩ (by simp) rfl)
      have p9 := hI.facts 9 (by omega) (hall ⟨9, .data⟩ (by simp) rfl)
      have p11 := hI.facts 11 (by omega) (hall ⟨11, .data⟩ (by simp) rfl)
      have p13 := hI.facts 13 (by omega) (hall ⟨13, .data⟩ (by simp) rfl)
      have p14 := hI.facts 14 (by omega) (hall ⟨14, .data⟩ (by simp) rfl)
      have p15 := hI.facts 15 (by omega) (hall ⟨15, .data⟩ (by simp) rfl)
      have p16 := hI.facts 16 (by omega) (hall ⟨16, .data⟩ (by simp) rfl)
      have p17 := hI.facts 17 (by omega) (hall ⟨17, .data⟩ (by simp) rfl)
      have p18 := hI.facts 18 (by omega) (hall ⟨18, .data⟩ (by simp) rfl)
      have p20 := hI.facts 20 (by omega) (hall ⟨20, .data⟩ (by simp) rfl)
      have p21 := hI.facts 21 (by omega) (hall ⟨21, .data⟩ (by simp) rfl)
      have p22 := hI.facts 22 (by omega) (hall ⟨22, .data⟩ (by simp) rfl)
      have p23 := hI.facts 23 (by omega) (hall ⟨23, .data⟩ (by simp) rfl)
      have p24 := hI.facts 24 (by omega) (hall ⟨24, .data⟩ (by simp) rfl)
      have p25 := hI.facts 25 (by omega) (hall ⟨25, .data⟩ (by simp) rfl)
      have p26 := hI.facts 26 (by omega) (hall ⟨26, .data⟩ (by simp) rfl)
      obtain ⟨q4, e4, o4, m4⟩ := p4
      obtain ⟨q14, e14, o14, m14⟩ := p14
      obtain ⟨q15, e15, o15, m15⟩ := p15
      obtain ⟨q16, e16, o16, m16⟩ := p16
      obtain ⟨q17, e17, o17, m17⟩ := p17
      obtain ⟨q18, e18, o18, m18⟩ := p18
      obtain ⟨q21, e21, o21, m21⟩ := p21
      obtain ⟨q22, e22, o22, m22⟩ := p22
      obtain ⟨q23, e23, o23, m23⟩ := p23
      obtain ⟨q24, e24, o24, m24⟩ := p24
      obtain ⟨q25, e25, o25, m25⟩ := p25
      obtain ⟨q26, e26, o26, m26⟩ := p26
      obtain ⟨k1, k2, k3, e9, o9, m9⟩ := p9
      have d9_21 : k3 ≠ q21 := fun h => hI.apart 9 21 k3 (by omega) (by omega) (by omega) (hall ⟨9, .data⟩ (by simp) rfl) (hall ⟨21, .data⟩ (by simp) rfl) (.inl ⟨rfl, _, _, e9⟩) (.inr ⟨by simp, by rw [e21, h]⟩)
      have d9_22 : k3 ≠ q22 := fun h => hI.apart 9 22 k3 (by omega) (by omega) (by omega) (hall ⟨9, .data⟩ (by simp) rfl) (hall ⟨22, .data⟩ (by simp) rfl) (.inl ⟨rfl, _, _, e9⟩) (.inr ⟨by simp, by rw [e22, h]⟩)
      have d9_23 : k3 ≠ q23 := fun h => hI.apart 9 23 k3 (by omega) (by omega) (by omega) (hall ⟨9, .data⟩ (by simp) rfl) (hall ⟨23, .data⟩ (by simp) rfl) (.inl ⟨rfl, _, _, e9⟩) (.inr ⟨by simp, by rw [e23, h]⟩)
      have d21_22 : q21 ≠ q22 := fun h => hI.apart 21 22 q21 (by omega) (by omega) (by omega) (hall ⟨21, .data⟩ (by simp) rfl) (hall ⟨22, .data⟩ (by simp) rfl) (.inr ⟨by simp, e21⟩) (.inr ⟨by simp, by rw [e22, h]⟩)
      have d21_23 : q21 ≠ q23 := fun h => hI.apart 21 23 q21 (by omega) (by omega) (by omega) (hall ⟨21, .data⟩ (by simp) rfl) (hall ⟨23, .data⟩ (by simp) rfl) (.inr ⟨by simp, e21⟩) (.inr ⟨by simp, by rw [e23, h]⟩)
      have d22_23 : q22 ≠ q23 := fun h => hI.apart 22 23 q22 (by omega) (by omega) (by omega) (hall ⟨22, .data⟩ (by simp) rfl) (hall ⟨23, .data⟩ (by simp) rfl) (.inr ⟨by simp, e22⟩) (.inr ⟨by simp, by rw [e23, h]⟩)
      refine wpOp_value ho rfl (v := .agg (siteCells name .nilFunc (fun n => if n = 2 then q4 else if n = 5 then k1 else if n = 6 then k2 else if n = 11 then q14 else if n = 12 then q15 else if n = 13 then q16 else if n = 14 then q17 else if n = 15 then q18 else if n = 20 then q24 else if n = 22 then q25 else q26) k3 q21 q22 q23)) (w' := wx) ?_ (hI.step (i := 27) (by omega) (Below.refl _ _) ⟨_, _, _, _, _, rfl, ⟨o9, o21, o22, o23⟩, m9, m21, m22, m23, d9_21, d9_22, d9_23, d21_22, d21_23, d22_23⟩ (fun r hr => by simp [Ref] at hr))
      simp only [F] at p0 p1 p6 p8 p11 p13 p20
      simp only [Nat.reduceAdd] at p0 p1 p6 p8 p11 p13 p20 e4 e9 e14 e15 e16 e17 e18 e21 e22 e23 e24 e25 e26
      revert p0 p1 p6 p8 p11 p13 p20 e4 e9 e14 e15 e16 e17 e18 e21 e22 e23 e24 e25 e26
      clear hall ho cO d9_21 d9_22 d9_23 d21_22 d21_23 d22_23 hI
      generalize a.eval = ρ
      intro p0 p1 p6 p8 p11 p13 p20 e4 e9 e14 e15 e16 e17 e18 e21 e22 e23 e24 e25 e26
      simp (config := { maxSteps := 10000000 }) [execOp, p0, p1, p6, p8, p11, p13, p20, e4, e9, e14, e15, e16, e17, e18, e21, e22, e23, e24, e25, e26, siteCells, go_sem]
    · -- operation 28
      simp only [List.getElem?_toArray, List.getElem?_cons_zero, List.getElem?_cons_succ] at ho
      have ho' := Option.some.inj ho
      subst ho'
      obtain ⟨q, r7, r17, r18, r19, e27, hfour⟩ := hI.facts 27 (by omega) (hall ⟨27, .data⟩ (by simp) rfl)
      refine wpOp_value ho rfl (v := .pointer (some ⟨wx.heap.size, 0, none⟩)) (w' := wx.alloc (.cells (siteCells name .nilFunc q r7 r17 r18 r19) 71)) ?_ (hI.step (i := 28) (by omega) (below_alloc _ _) ⟨q, _, r7, r17, r18, r19, rfl, by omega, by rw [heap_alloc]; simp, hfour.ext (below_alloc _ _)⟩ (fun r hr => by simp [Ref] at hr))
      have e27' : a.eval (.tmp 39) = _ := e27
      revert e27'
      clear hall ho cO hI e27
      generalize a.eval = ρ
      intro e27
      simp [execOp, e27, siteCells, go_sem]
    · -- operation 29
      simp only [List.getElem?_toArray, List.getElem?_cons_zero, List.getElem?_cons_succ] at ho
      have ho' := Option.some.inj ho
      subst ho'
      have p28 := hI.facts 28 (by omega) (hall ⟨28, .data⟩ (by simp) rfl)
      exact wpOp_value ho rfl (v := a.eval (.tmp 40)) (w' := wx) (by simp [execOp, go_sem]) (hI.step_last p28)
  · intro listed a wx hI hr
    have h29 : listed.getD 29 false = true := all_listed (by rw [hI.size]; rfl) (by decide +kernel) hr 29 (by simp)
    have hlast := hI.last h29
    have hb := hI.below
    have hd := hI.defers
    have ht1 := hI.t1
    have hts := hI.tmps
    clear hI h29 hr
    obtain ⟨tm, df⟩ := a
    simp only at hd hts
    subst hd
    rw [arr60 tm hts] at hlast ht1 ⊢
    generalize tm.getD 1 undef = v1 at hlast ht1 ⊢
    generalize tm.getD 9 undef = v9 at hlast ht1 ⊢
    have e9 : F name w.heap.size 28 v9 wx := hlast
    have e1 : v1 = .slice none 0 0 := ht1
    clear hlast ht1 hts
    subst e1
    obtain ⟨q, S, r7, r17, r18, r19, rfl, hS, hc, hf⟩ := e9
    have c21 : wx.cell? ⟨S, 21, none⟩ = some .nilFunc := by simp [World.cell?, hc, siteCells]
    have f21 : wx.frozen? ⟨S, 21, none⟩ = false := by simp [World.frozen?, hc]
    have HC : Hid (wx.heap[S]? = some (.cells (siteCells name .nilFunc q r7 r17 r18 r19) 71 (0, 0))) := hc
    clear hc
    go_wp2
    refine wp_loop_rounds 1 ?_
    rw [rounds_succ]
    go_wp2
    go_ret
    have hc := HC.out
    have hlt := lt_of_some hc
    refine ⟨.func (.func 18) #[.pointer (some ⟨S, 0, none⟩)] #[], q, S, r7, r17, r18, r19, rfl, hS, ?_, ?_, ?_⟩
    · exact (((below_alloc w _).trans (hb.mono (by simp))).setCell (by simp; omega) _)
    · rw [heap_setCell_same hc]; rfl
    · exact hf.setCell S (by obtain ⟨_, m1, m2, m3, m4, _⟩ := hf; unfold Emp at *; rintro (rfl | rfl | rfl | rfl) <;> simp_all) _
  · refine ⟨by simp, rfl, by simp, rfl, rfl, rfl, rfl, (Below.refl _ _).drew, ?_, ?_, ?_⟩
    · intro i hi h; rw [getD_replicate_false] at h; cases h
    · intro i j r _ _ _ h; rw [getD_replicate_false] at h; cases h
    · intro h; rw [getD_replicate_false] at h; cases h
end Go.Proofs.Ybulkcfri
