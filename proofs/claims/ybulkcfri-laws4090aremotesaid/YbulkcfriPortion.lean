import Derived.Test.YbulkcfriGoBase
namespace Go.Proofs.Ybulkcfri
open Go.ChangeShapes Go.WideShapes Go.ChangeAt Go.RowKit

theorem zero4 (w : World) : (zeroValue 4).run Yba.prog w = .ok (.bool false) w := by kernel_rfl

set_option maxRecDepth 100000 in
set_option maxHeartbeats 1000000 in
theorem add_known (Pt mk : Nat) (up p : Int) (c0 c1 gv : Value) (f : Value → Option Value) (n : Nat) (w : World) (hP : w.heap[Pt]? = some (.cells #[c0, c1, .map (some mk), gv] 42 (0, 0)))
    (hm : MapIs Yba.prog 39 w mk f n) (hup : (Lit.int .u64 up).wf = true) (hp : (Lit.int .u64 p).wf = true) (hf : f (.agg #[.int .u64 up, .int .u64 p]) = some (.bool true)) :
    Calls Yba.prog 19 #[.pointer (some ⟨Pt, 0, none⟩), .agg #[.int .u64 up, .int .u64 p]] w fun e w' => e = .returned (.tuple #[]) ∧ Below w.heap.size w w' := by
  obtain ⟨l, hkey⟩ := key39 hup hp
  have c2 : w.cell? ⟨Pt, 2, none⟩ = some (.map (some mk)) := cell_of hP rfl
  have hPl := lt_of_some hP
  have hl : ∀ k, Sem.run Yba.prog (Instr.lookup 40 (.map (some mk)) (.agg #[.int .u64 up, .int .u64 p]) false) ((w.alloc (.cells #[.int .u64 up, .int .u64 p] 39)).drewN k) = .ok (.bool true) ((w.alloc (.cells #[.int .u64 up, .int .u64 p] 39)).drewN k) := by
    intro k
    have := MapIs.lookup (w := (w.alloc (.cells #[.int .u64 up, .int .u64 p] 39)).drewN k) law39 Yba.underlying40 (zero4 _) ((hm.alloc (.cells #[.int .u64 up, .int .u64 p] 39)).of_block rfl) hkey false
    rw [hf] at this
    exact this
  clear hP hm hf hkey hup hp
  go_enter Yba.func19, Yba.ntmps19
  go_wp2
  go_quiet (fail)
  go_wp2
  go_end0
  exact ⟨rfl, (below_alloc w _).trans ⟨rfl, rfl, rfl, Nat.le_refl _, fun _ _ => rfl⟩⟩

set_option maxRecDepth 100000 in
set_option maxHeartbeats 1000000 in
theorem add_new (Pt mk : Nat) (up p : Int) (c0 c1 : Value) (w : World) (hP : w.heap[Pt]? = some (.cells #[c0, c1, .map (some mk), .slice none 0 0] 42 (0, 0)))
    (hm : MapIs Yba.prog 39 w mk (fun _ => none) 0) (hup : (Lit.int .u64 up).wf = true) (hp : (Lit.int .u64 p).wf = true) :
    Calls Yba.prog 19 #[.pointer (some ⟨Pt, 0, none⟩), .agg #[.int .u64 up, .int .u64 p]] w fun e w' => e = .returned (.tuple #[]) ∧
      ∃ gv g, w'.heap[Pt]? = some (.cells #[c0, c1, .map (some mk), gv] 42 (0, 0)) ∧ OneOf w' gv #[.int .u64 up, .int .u64 p] ∧ MapIs Yba.prog 39 w' mk g 1 ∧ g (.agg #[.int .u64 up, .int .u64 p]) = some (.bool true) ∧
        (∀ g cap, gv = .slice (some ⟨g, 0, none⟩) 1 cap → w.heap.size ≤ g) ∧ Fr (fun k => k = Pt ∨ k = mk) w w' := by
  obtain ⟨l, hkey⟩ := key39 hup hp
  have c2 : w.cell? ⟨Pt, 2, none⟩ = some (.map (some mk)) := cell_of hP rfl
  have hPl := lt_of_some hP
  have hml := hm.lt
  have hne : Pt ≠ mk := by
    intro e; subst e
    obtain ⟨es, c, hh, _⟩ := hm
    rw [hP] at hh; cases hh
  have hl : ∀ k, Sem.run Yba.prog (Instr.lookup 40 (.map (some mk)) (.agg #[.int .u64 up, .int .u64 p]) false) ((w.alloc (.cells #[.int .u64 up, .int .u64 p] 39)).drewN k) = .ok (.bool false) ((w.alloc (.cells #[.int .u64 up, .int .u64 p] 39)).drewN k) := by
    intro k
    exact MapIs.lookup (w := (w.alloc (.cells #[.int .u64 up, .int .u64 p] 39)).drewN k) law39 Yba.underlying40 (zero4 _) ((hm.alloc (.cells #[.int .u64 up, .int .u64 p] 39)).of_block rfl) hkey false
  have HP : Hid (w.heap[Pt]? = some (.cells #[c0, c1, .map (some mk), .slice none 0 0] 42 (0, 0))) := hP
  have HK : Hid (keyOf Yba.prog 39 (.agg #[.int .u64 up, .int .u64 p]) = some l) := hkey
  have HM : Hid (MapIs Yba.prog 39 w mk (fun _ => none) 0) := hm
  have hc39 := cap39
  clear hP hkey hm hup hp
  go_enter Yba.func19, Yba.ntmps19
  go_wp2
  go_quiet (fail)
  go_wp2
  have q0 : ((w.alloc (.cells #[.int .u64 up, .int .u64 p] 39)).drewN nq).heap[Pt]? = some (.cells #[c0, c1, .map (some mk), .slice none 0 0] 42 (0, 0)) := heap_alloc_old HP.out
  have q1 : ((w.alloc (.cells #[.int .u64 up, .int .u64 p] 39)).drewN nq).cell? ⟨w.heap.size, 0, none⟩ = some (.int .u64 up) := by simp
  have q2 : ((w.alloc (.cells #[.int .u64 up, .int .u64 p] 39)).drewN nq).cell? ⟨w.heap.size, 1, none⟩ = some (.int .u64 p) := by simp
  have q3 : MapIs Yba.prog 39 ((w.alloc (.cells #[.int .u64 up, .int .u64 p] 39)).drewN nq) mk (fun _ => none) 0 := (MapIs.alloc HM.out (.cells #[.int .u64 up, .int .u64 p] 39)).of_block rfl
  have q4 : Fr (fun k => k = Pt ∨ k = mk) w ((w.alloc (.cells #[.int .u64 up, .int .u64 p] 39)).drewN nq) := ((Fr.refl _ _).alloc _).drewN nq
  clear hl c2
  generalize ((w.alloc (.cells #[.int .u64 up, .int .u64 p] 39)).drewN nq) = w1 at q0 q1 q2 q3 q4 ⊢
  have d2 : w1.cell? ⟨Pt, 2, none⟩ = some (.map (some mk)) := cell_of q0 rfl
  obtain ⟨w2, g, hrun, hm2, hg1, hg2, hgr, hsz⟩ := MapIs.update law39 Yba.underlying40 q3.drew HK.out (.bool true)
  have Hm2 : Hid (MapIs Yba.prog 39 w2 mk g 1) := hm2
  have Hg1 : Hid (g (.agg #[.int .u64 up, .int .u64 p]) = some (.bool true)) := hg1
  clear hm2 hg1 hg2
  have q0' : Hid _ := q0
  have q3' : Hid _ := q3
  clear q0 q3
  go_region
  have r0 : w2.heap[Pt]? = some (.cells #[c0, c1, .map (some mk), .slice none 0 0] 42 (0, 0)) := (hgr.block Pt (lt_of_some q0'.out) (by simpa using hne)).trans q0'.out
  have r1 : w2.cell? ⟨w.heap.size, 0, none⟩ = some (.int .u64 up) := (hgr.cell_far _ (World.block_lt_of_cell? w1 _ q1) (by simp; omega)).trans q1
  have r2 : w2.cell? ⟨w.heap.size, 1, none⟩ = some (.int .u64 p) := (hgr.cell_far _ (World.block_lt_of_cell? w1 _ q2) (by simp; omega)).trans q2
  have r4 : Fr (fun k => k = Pt ∨ k = mk) w w2 := q4.trans (Fr.of_grown (w := w1) ⟨hgr.os, hgr.tape, hgr.output, hgr.size, hgr.block⟩ (fun k hk => .inr (by cases hk; rfl)))
  have hPl2 := lt_of_some r0
  have hle2 := r4.size
  have hbl2 := World.block_lt_of_cell? w2 _ r1
  simp only at hbl2
  clear hrun hgr hsz q1 q2 d2 q4 q0' q3'
  have e3 : w2.cell? ⟨Pt, 3, none⟩ = some (.slice none 0 0) := cell_of r0 rfl
  have y3 : w2.frozen? ⟨Pt, 3, none⟩ = false := free_of r0
  have fz : ∀ o, (w2.alloc o).frozen? ⟨Pt, 3, none⟩ = false := fun o => (World.frozen?_alloc_old w2 o ⟨Pt, 3, none⟩ (by simp; omega)).trans y3
  have fz2 : ∀ o o', ((w2.alloc o).alloc o').frozen? ⟨Pt, 3, none⟩ = false := fun o o' => (World.frozen?_alloc_old (w2.alloc o) o' ⟨Pt, 3, none⟩ (by simp; omega)).trans (fz o)
  have R0 : Hid _ := r0
  have R4 : Hid _ := r4
  clear r0 r4
  go_wp2
  go_region
  generalize ((Question.appendCap 1 0 39).cut (w2.tape (w2.drawn + 1) (Question.appendCap 1 0 39))) = cp
  have hone := oneOf_new ((w2.setCell ⟨Pt, 3, none⟩ (.slice (some ⟨w2.heap.size + 1, 0, none⟩) 1 cp)).alloc (.cells #[.int .u64 up, .int .u64 p] 39)) #[.int .u64 up, .int .u64 p] (Builtin.zeroCells #[.int .u64 0, .int .u64 0] (cp - 1)) 39 cp
  rw [World.size_alloc, size_setCell] at hone
  refine bodyPost_end (v := .tuple #[]) (results_none rfl _ _ _) rfl ⟨rfl, .slice (some ⟨w2.heap.size + 1, 0, none⟩) 1 cp, g, ?_, hone, ?_, Hg1.out, ?_, ?_⟩
  · refine heap_alloc_old (heap_alloc_old ?_)
    rw [heap_setCell_same R0.out]; rfl
  · exact (((MapIs.setCell Hm2.out _ _).alloc _).alloc _).drew.drew
  · intro g cap e; cases e; omega
  · exact ((((Fr.setCell R4.out (.inl rfl) _ _).alloc _).alloc _).drew).drew
end Go.Proofs.Ybulkcfri
