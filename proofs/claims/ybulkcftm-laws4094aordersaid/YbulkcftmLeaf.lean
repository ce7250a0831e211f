import Derived.Test.YbulkcftmBase
namespace Go.Proofs.Ybulkcftm
open Go.ChangeShapes Go.WideShapes Go.ChangeAt Go.RowKit
/-- What a walk reads of a leaf: leaf i, of c spans, at block b. -/
structure LeafAt (w : World) (b i c : Nat) (nxt : Option Addr) : Prop where
  ord : ∀ k, k < c → w.cell? ⟨b, k, none⟩ = some (.int .u8 (place i k))
  used : w.cell? ⟨b, 16, none⟩ = some (.int .u16 (mask i c))
  next : w.cell? ⟨b, 24, none⟩ = some (.pointer nxt)
theorem LeafAt.of_block {w w' : World} {b i c : Nat} {nxt : Option Addr} (h : LeafAt w b i c nxt) (hb : w'.heap[b]? = w.heap[b]?) : LeafAt w' b i c nxt :=
  ⟨fun k hk => (World.cell?_of_block hb).trans (h.ord k hk), (World.cell?_of_block hb).trans h.used, (World.cell?_of_block hb).trans h.next⟩
theorem LeafAt.lt {w : World} {b i c : Nat} {nxt : Option Addr} (h : LeafAt w b i c nxt) : b < w.heap.size := World.block_lt_of_cell? w _ h.used
theorem count_any (w : World) (b i c : Nat) (nxt : Option Addr) (hc : c ≤ 16) (h : LeafAt w b i c nxt) :
    Calls Yba.prog 28 #[.pointer (some ⟨b, 0, none⟩)] w fun e w' => e = .returned (.int .i64 c) ∧ ∃ n, w' = w.drewN n := by
  have hu := h.used
  go_enter Yba.func28, Yba.ntmps28
  go_wp2_with fail
  refine (ones i c hc w).mono ?_
  rintro e w' ⟨rfl, n, rfl⟩
  go_wp2
  go_ret
  exact ⟨rfl, n, rfl⟩
theorem slot_any (w : World) (b i c k : Nat) (nxt : Option Addr) (hc : c ≤ 16) (hk : k < c) (h : LeafAt w b i c nxt) :
    Calls Yba.prog 29 #[.pointer (some ⟨b, 0, none⟩), .int .i64 k] w fun e w' => e = .returned (.agg #[.pointer (some ⟨b, 0, none⟩), .int .i64 (place i k)]) ∧ Below w.heap.size w w' := by
  have ho := h.ord k hk
  have hp := place_lt i k
  generalize place i k = p at *
  have hk0 : (k : Int) < 16 := by omega
  have hlt := h.lt
  go_enter Yba.func29, Yba.ntmps29
  go_wp2
  refine bodyPost_ret (v := .agg #[.pointer (some ⟨b, 0, none⟩), .int .i64 p]) (by simp [results, Yba.results29, go_sem]) rfl ?_
  exact ⟨rfl, below_alloc _ _⟩
theorem place_inj (i j k : Nat) (hj : j < 16) (hk : k < 16) (h : place i j = place i k) : j = k := by
  simp only [place] at h; omega
theorem index_any (w : World) (b i c k : Nat) (nxt : Option Addr) (hc : c ≤ 16) (hk : k < c) (h : LeafAt w b i c nxt) :
    Calls Yba.prog 33 #[.slice (some ⟨b, 0, none⟩) c 16, .int .u8 (place i k)] w fun e w' => e = .returned (.int .i64 k) ∧ w' = w := by
  have hinj : Hid (∀ j, j < k → place i k ≠ place i j) := fun j hj e => by have := place_inj i k j (by omega) (by omega) e; omega
  have ho := h.ord
  have hc1 : (c : Int) ≤ 16 := by omega
  go_enter Yba.func33, Yba.ntmps33
  go_wp2
  go_loop [8] (fun v => ∃ j : Nat, j ≤ k ∧ v = .int .i64 j) (fun v => c - (intOf v).toNat)
  case atStart => exact ⟨0, Nat.zero_le _, rfl⟩
  case round =>
    obtain ⟨j, hj, rfl⟩ := hrel
    have hlt : (j : Int) < c := by omega
    have hcell := ho j (by omega)
    by_cases e : j = k
    · subst e
      go_wp2
      go_ret
      exact ⟨rfl, rfl⟩
    · have hne : (((place i k : Nat) : Int) == ((place i j : Nat) : Int)) = false := by
        have := hinj.out j (by omega)
        simp; omega
      go_wp2
      go_round
      case rel => exact ⟨j + 1, by omega, by go_num⟩
      case measure => simp [intOf]; omega
theorem rank_any (w : World) (b i c k : Nat) (nxt : Option Addr) (hc : c ≤ 16) (hk : k < c) (h : LeafAt w b i c nxt) :
    Calls Yba.prog 27 #[.pointer (some ⟨b, 0, none⟩), .int .i64 (place i k)] w fun e w' => e = .returned (.int .i64 k) ∧ ∃ n, w' = w.drewN n := by
  have hL := h.ord (c - 1) (by omega)
  have hL' : w.cell? ⟨b, ((c : Int) - 1).toNat, none⟩ = some (.int .u8 (place i (c - 1))) := by rw [← hL]; congr 2; omega
  have hp := place_lt i k
  have hp1 := place_lt i (c - 1)
  have hc0 : (0 : Int) < c := by omega
  by_cases e : k = c - 1
  · subst e
    have hb : (((place i (c - 1) : Nat) : Int) == ((place i (c - 1) : Nat) : Int)) = true := by simp
    go_enter Yba.func27, Yba.ntmps27
    go_wp2_with fail
    refine (count_any w b i c nxt hc h).mono ?_
    rintro e w' ⟨rfl, n, rfl⟩
    have hgo : (c : Int) - 1 = ((c - 1 : Nat) : Int) := by omega
    have hwp : ∀ x : Int, x = ((c - 1 : Nat) : Int) → Ending.returned (.int .i64 x) = Ending.returned (.int .i64 ((c - 1 : Nat) : Int)) := fun x hx => by rw [hx]
    have Hgo : Hid ((c : Int) - 1 = ((c - 1 : Nat) : Int)) := hgo
    clear hgo
    go_wp2
    go_ret
    exact ⟨hwp _ (by first | exact Hgo.out | rfl), n, rfl⟩
  · have hne : (((place i (c - 1) : Nat) : Int) == ((place i k : Nat) : Int)) = false := by
      have : place i (c - 1) ≠ place i k := fun q => e (place_inj i k (c - 1) (by omega) (by omega) q.symm)
      simp; omega
    go_enter Yba.func27, Yba.ntmps27
    go_wp2_with fail
    refine (count_any w b i c nxt hc h).mono ?_
    rintro e w1 ⟨rfl, n, hw1⟩
    have h1 : LeafAt w1 b i c nxt := h.of_block (by rw [hw1]; rfl)
    have hL1 : w1.cell? ⟨b, c - 1, none⟩ = some (.int .u8 (place i (c - 1))) := by rw [hw1]; exact hL
    have hL2 : w1.cell? ⟨b, ((c : Int) - 1).toNat, none⟩ = some (.int .u8 (place i (c - 1))) := by rw [hw1]; exact hL'
    have HW : Hid (w1 = w.drewN n) := hw1
    clear hw1
    go_wp2
    have hc16 : (c : Int) ≤ 16 := by omega
    have hcc0 : (0 : Int) ≤ c := by omega
    go_quiet (first | (go_at_call 28; refine Calls.quiet_of (count_any _ b i c nxt hc ?_); exact h1.of_block rfl) | (go_at_call 33; refine Calls.quiet_of_same (index_any _ b i c k nxt hc hk ?_); exact h1.of_block rfl))
    go_wp2
    go_ret
    exact ⟨rfl, n + nq, by rw [HW.out, World.drewN_drewN]⟩
theorem below_drewN (w : World) (n : Nat) : Below w.heap.size w (w.drewN n) := ⟨rfl, rfl, rfl, Nat.le_refl _, fun _ _ => rfl⟩
/-- The slot k of the leaf at b. -/
def slotV (b i k : Nat) : Value := .agg #[.pointer (some ⟨b, 0, none⟩), .int .i64 (place i k)]
theorem head_any (w : World) (S b : Nat) (hS : w.cell? ⟨S, 3, none⟩ = some (.pointer (some ⟨b, 0, none⟩))) :
    Calls Yba.prog 17 #[.pointer (some ⟨S, 2, none⟩)] w fun e w' => e = .returned (.agg #[.pointer (some ⟨b, 0, none⟩), .int .i64 0]) ∧ Below w.heap.size w w' := by
  have hlt : S < w.heap.size := World.block_lt_of_cell? w _ hS
  go_enter Yba.func17, Yba.ntmps17
  go_wp2
  refine bodyPost_ret (v := .agg #[.pointer (some ⟨b, 0, none⟩), .int .i64 0]) (by simp [results, Yba.results17, go_sem]) rfl ?_
  exact ⟨rfl, below_alloc _ _⟩
theorem span_any (w : World) (b p : Nat) (hp : p < 16) :
    Calls Yba.prog 19 #[.agg #[.pointer (some ⟨b, 0, none⟩), .int .i64 p]] w fun e w' => e = .returned (.pointer (some ⟨b, 25 + p * 11, none⟩)) ∧ Below w.heap.size w w' := by
  have hp1 : (p : Int) < 16 := by omega
  have hp0 : (0 : Int) ≤ p := by omega
  go_enter Yba.func19, Yba.ntmps19
  go_wp2
  go_quiet (fail)
  go_wp2
  go_ret
  exact ⟨rfl, (below_alloc _ _).trans ((below_drewN _ _).mono (by simp))⟩
/-- A cell of a block that a read-only call found. -/
theorem size_alloc (w : World) (o : Obj) : (w.alloc o).heap.size = w.heap.size + 1 := by simp
theorem Below.cellAt' {B : Nat} {w w' : World} (h : Below B w w') {a : Addr} {v : Value} (hc : w.cell? a = some v) (hB : a.block < B := by first | assumption | exact World.block_lt_of_cell? _ _ ‹_›) : w'.cell? a = some v :=
  (World.cell?_of_block (h.block a.block hB)).trans hc
theorem Below.cellAt {w w' : World} (h : Below w.heap.size w w') {a : Addr} {v : Value} (hc : w.cell? a = some v) : w'.cell? a = some v :=
  (World.cell?_of_block (h.block a.block (World.block_lt_of_cell? w a hc))).trans hc
theorem next_in (w : World) (b i c k : Nat) (nxt : Option Addr) (hc : c ≤ 16) (hk : k + 1 < c) (h : LeafAt w b i c nxt) :
    Calls Yba.prog 18 #[.agg #[.pointer (some ⟨b, 0, none⟩), .int .i64 (place i k)]] w fun e w' => e = .returned (.agg #[.pointer (some ⟨b, 0, none⟩), .int .i64 (place i (k + 1))]) ∧ Below w.heap.size w w' := by
  have hlt := h.lt
  go_enter Yba.func18, Yba.ntmps18
  go_wp2_with fail
  refine (rank_any _ b i c k _ hc (by omega) (h.of_block ?_)).mono ?_
  · rw [heap_alloc, if_neg (by rw [size_alloc]; omega), heap_alloc, if_neg (by omega)]
  rintro e w1 ⟨rfl, n, hw1⟩
  have b1 : Below w.heap.size w w1 := by rw [hw1]; exact ((below_alloc _ _).trans ((below_alloc _ _).mono (by rw [size_alloc]; omega))).trans ((below_drewN _ _).mono (by rw [size_alloc, size_alloc]; omega))
  have c1 : w1.heap[w.heap.size + 1]? = some (.cells #[.pointer none, .int .i64 0] 55 (0, 0)) := by rw [hw1]; show ((w.alloc _).alloc _).heap[_]? = _; rw [heap_alloc, if_pos (by rw [size_alloc])]
  have s1 : w1.heap.size = w.heap.size + 2 := by rw [hw1]; show ((w.alloc _).alloc _).heap.size = _; rw [size_alloc, size_alloc]
  clear hw1
  go_wp2_with fail
  refine (count_any _ b i c _ hc (h.of_block (b1.block _ hlt))).mono ?_
  rintro e w2 ⟨rfl, n2, hw2⟩
  have b2 : Below w.heap.size w w2 := b1.trans ((by rw [hw2]; exact below_drewN _ _ : Below w1.heap.size w1 w2).mono b1.size)
  have c2 : w2.heap[w.heap.size + 1]? = some (.cells #[.pointer none, .int .i64 0] 55 (0, 0)) := by rw [hw2]; exact c1
  have s2 : w2.heap.size = w.heap.size + 2 := by rw [hw2]; exact s1
  clear hw2 c1 s1
  have hk1 : (k : Int) + 1 < c := by omega
  go_wp2_with fail
  refine (slot_any _ b i c (k + 1) nxt hc hk (h.of_block (b2.block _ hlt))).mono ?_
  rintro e w3 ⟨rfl, hb3⟩
  have b3 : Below w.heap.size w w3 := b2.trans (hb3.mono b2.size)
  have c3 : w3.heap[w.heap.size + 1]? = some (.cells #[.pointer none, .int .i64 0] 55 (0, 0)) := (hb3.block _ (by omega)).trans c2
  have f1 : w3.frozen? ⟨w.heap.size + 1, 0, none⟩ = false := free_of c3
  have f2 : w3.frozen? ⟨w.heap.size + 1, 1, none⟩ = false := free_of c3
  have d1 := cell_of (j := 0) c3 rfl
  have d2 := cell_of (j := 1) c3 rfl
  have s3 : w.heap.size + 2 ≤ w3.heap.size := by rw [← s2]; exact hb3.size
  clear hb3 c2 s2
  go_wp2
  generalize hE : (World.setCell (w3.setCell _ _) _ _) = wE
  have eB : wE.heap[w.heap.size + 1]? = some (.cells #[.pointer (some ⟨b, 0, none⟩), .int .i64 (place i (k + 1))] 55 (0, 0)) := by rw [← hE, heap_setCell_same (heap_setCell_same c3)]; rfl
  have e0 := cell_of (j := 0) eB rfl
  have e1 := cell_of (j := 1) eB rfl
  have bE : Below w.heap.size w wE := by rw [← hE]; exact (b3.setCell (by simp) _).setCell (by simp) _
  refine bodyPost_ret (v := .agg #[.pointer (some ⟨b, 0, none⟩), .int .i64 (place i (k + 1))]) (by simp [results, Yba.results18, go_sem, e0, e1]) rfl ?_
  exact ⟨rfl, bE⟩
theorem next_over (w : World) (b i c k b2 i2 c2 : Nat) (nxt2 : Option Addr) (hc : c ≤ 16) (hc2 : c2 ≤ 16) (hk2 : 0 < c2) (hk : k + 1 = c) (h : LeafAt w b i c (some ⟨b2, 0, none⟩)) (h2 : LeafAt w b2 i2 c2 nxt2) :
    Calls Yba.prog 18 #[.agg #[.pointer (some ⟨b, 0, none⟩), .int .i64 (place i k)]] w fun e w' => e = .returned (.agg #[.pointer (some ⟨b2, 0, none⟩), .int .i64 (place i2 0)]) ∧ Below w.heap.size w w' := by
  have hlt := h.lt
  have hlt2 := h2.lt
  go_enter Yba.func18, Yba.ntmps18
  go_wp2_with fail
  refine (rank_any _ b i c k _ hc (by omega) (h.of_block ?_)).mono ?_
  · rw [heap_alloc, if_neg (by rw [size_alloc]; omega), heap_alloc, if_neg (by omega)]
  rintro e w1 ⟨rfl, n, hw1⟩
  have b1 : Below w.heap.size w w1 := by rw [hw1]; exact ((below_alloc _ _).trans ((below_alloc _ _).mono (by rw [size_alloc]; omega))).trans ((below_drewN _ _).mono (by rw [size_alloc, size_alloc]; omega))
  have c1 : w1.heap[w.heap.size + 1]? = some (.cells #[.pointer none, .int .i64 0] 55 (0, 0)) := by rw [hw1]; show ((w.alloc _).alloc _).heap[_]? = _; rw [heap_alloc, if_pos (by rw [size_alloc])]
  have s1 : w1.heap.size = w.heap.size + 2 := by rw [hw1]; show ((w.alloc _).alloc _).heap.size = _; rw [size_alloc, size_alloc]
  clear hw1
  go_wp2_with fail
  refine (count_any _ b i c _ hc (h.of_block (b1.block _ hlt))).mono ?_
  rintro e w2 ⟨rfl, n2, hw2⟩
  have bb2 : Below w.heap.size w w2 := b1.trans ((by rw [hw2]; exact below_drewN _ _ : Below w1.heap.size w1 w2).mono b1.size)
  have cc2 : w2.heap[w.heap.size + 1]? = some (.cells #[.pointer none, .int .i64 0] 55 (0, 0)) := by rw [hw2]; exact c1
  have s2 : w2.heap.size = w.heap.size + 2 := by rw [hw2]; exact s1
  clear hw2 c1 s1
  have hk1 : ¬ (k : Int) + 1 < c := by omega
  have hn2 : w2.cell? ⟨b, 24, none⟩ = some (.pointer (some ⟨b2, 0, none⟩)) := Below.cellAt' bb2 h.next
  go_wp2_with fail
  refine (slot_any _ b2 i2 c2 0 nxt2 hc2 hk2 (h2.of_block (bb2.block _ hlt2))).mono ?_
  rintro e w3 ⟨rfl, hb3⟩
  have b3 : Below w.heap.size w w3 := bb2.trans (hb3.mono bb2.size)
  have c3 : w3.heap[w.heap.size + 1]? = some (.cells #[.pointer none, .int .i64 0] 55 (0, 0)) := (hb3.block _ (by omega)).trans cc2
  have f1 : w3.frozen? ⟨w.heap.size + 1, 0, none⟩ = false := free_of c3
  have f2 : w3.frozen? ⟨w.heap.size + 1, 1, none⟩ = false := free_of c3
  have d1 := cell_of (j := 0) c3 rfl
  have d2 := cell_of (j := 1) c3 rfl
  have s3 : w.heap.size + 2 ≤ w3.heap.size := by rw [← s2]; exact hb3.size
  clear hb3 cc2 s2
  go_wp2
  generalize hE : (World.setCell (w3.setCell _ _) _ _) = wE
  have eB : wE.heap[w.heap.size + 1]? = some (.cells #[.pointer (some ⟨b2, 0, none⟩), .int .i64 (place i2 0)] 55 (0, 0)) := by rw [← hE, heap_setCell_same (heap_setCell_same c3)]; rfl
  have e0 := cell_of (j := 0) eB rfl
  have e1 := cell_of (j := 1) eB rfl
  have bE : Below w.heap.size w wE := by rw [← hE]; exact (b3.setCell (by simp) _).setCell (by simp) _
  refine bodyPost_ret (v := .agg #[.pointer (some ⟨b2, 0, none⟩), .int .i64 (place i2 0)]) (by simp [results, Yba.results18, go_sem, e0, e1]) rfl ?_
  exact ⟨rfl, bE⟩
theorem next_end (w : World) (b i c k : Nat) (hc : c ≤ 16) (hk : k + 1 = c) (h : LeafAt w b i c none) :
    Calls Yba.prog 18 #[.agg #[.pointer (some ⟨b, 0, none⟩), .int .i64 (place i k)]] w fun e w' => e = .returned (.agg #[.pointer none, .int .i64 0]) ∧ Below w.heap.size w w' := by
  have hlt := h.lt
  go_enter Yba.func18, Yba.ntmps18
  go_wp2_with fail
  refine (rank_any _ b i c k _ hc (by omega) (h.of_block ?_)).mono ?_
  · rw [heap_alloc, if_neg (by rw [size_alloc]; omega), heap_alloc, if_neg (by omega)]
  rintro e w1 ⟨rfl, n, hw1⟩
  have b1 : Below w.heap.size w w1 := by rw [hw1]; exact ((below_alloc _ _).trans ((below_alloc _ _).mono (by rw [size_alloc]; omega))).trans ((below_drewN _ _).mono (by rw [size_alloc, size_alloc]; omega))
  have c1 : w1.heap[w.heap.size + 1]? = some (.cells #[.pointer none, .int .i64 0] 55 (0, 0)) := by rw [hw1]; show ((w.alloc _).alloc _).heap[_]? = _; rw [heap_alloc, if_pos (by rw [size_alloc])]
  have s1 : w1.heap.size = w.heap.size + 2 := by rw [hw1]; show ((w.alloc _).alloc _).heap.size = _; rw [size_alloc, size_alloc]
  clear hw1
  go_wp2_with fail
  refine (count_any _ b i c _ hc (h.of_block (b1.block _ hlt))).mono ?_
  rintro e w2 ⟨rfl, n2, hw2⟩
  have b2 : Below w.heap.size w w2 := b1.trans ((by rw [hw2]; exact below_drewN _ _ : Below w1.heap.size w1 w2).mono b1.size)
  have c2 : w2.heap[w.heap.size + 1]? = some (.cells #[.pointer none, .int .i64 0] 55 (0, 0)) := by rw [hw2]; exact c1
  have s2 : w2.heap.size = w.heap.size + 2 := by rw [hw2]; exact s1
  clear hw2 c1 s1
  have hk1 : ¬ (k : Int) + 1 < c := by omega
  have hn2 : w2.cell? ⟨b, 24, none⟩ = some (.pointer none) := Below.cellAt' b2 h.next
  have f1 : w2.frozen? ⟨w.heap.size + 1, 0, none⟩ = false := free_of c2
  have f2 : w2.frozen? ⟨w.heap.size + 1, 1, none⟩ = false := free_of c2
  have d1 := cell_of (j := 0) c2 rfl
  have d2 := cell_of (j := 1) c2 rfl
  go_wp2
  generalize hE : (World.setCell (w2.setCell _ _) _ _) = wE
  have eB : wE.heap[w.heap.size + 1]? = some (.cells #[.pointer none, .int .i64 0] 55 (0, 0)) := by rw [← hE, heap_setCell_same (heap_setCell_same c2)]; rfl
  have e0 := cell_of (j := 0) eB rfl
  have e1 := cell_of (j := 1) eB rfl
  have bE : Below w.heap.size w wE := by rw [← hE]; exact (b2.setCell (by simp) _).setCell (by simp) _
  refine bodyPost_ret (v := .agg #[.pointer none, .int .i64 0]) (by simp [results, Yba.results18, go_sem, e0, e1]) rfl ?_
  exact ⟨rfl, bE⟩
end Go.Proofs.Ybulkcftm
