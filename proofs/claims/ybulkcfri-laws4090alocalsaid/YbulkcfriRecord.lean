import Derived.Test.YbulkcfriContains
namespace Go.Proofs.Ybulkcfri
open Go.ChangeShapes Go.WideShapes Go.ChangeAt Go.RowKit Go.MuLone
theorem zero27 : (Yba.prog.info? 27).map (fun i => (i.zero, i.size, i.bytes)) = some (some (.pointer none), 1, 8) := by kernel_rfl
/-- A pair's key. -/
def pk (a b : Int) : Value := .agg #[.int .u64 a, .int .u64 b]
theorem record_known (S r W n m : Nat) (B : Nat) (f : Value → Option Value) (v : Value) (a b : Int) (ha : (Lit.int .u64 a).wf = true) (hb : (Lit.int .u64 b).wf = true) (w : World) (hm : MapIs Yba.prog 75 w r f n) (hf : f (pk a b) = some v) (ho : w.ownsRow B 27 1 v m (reps W m)) (hm0 : 0 < m) :
    Calls Yba.prog 27 #[.pointer (some ⟨S, 0, none⟩), .map (some r), .pointer (some ⟨W, 0, none⟩), .agg #[.int .u64 a, .int .u64 b]] w fun e w' => e = .returned (.bool false) ∧ Below w.heap.size w w' := by
  obtain ⟨l, hkey⟩ := key75 ha hb
  have hlk : ∀ w' : World, w'.heap[r]? = w.heap[r]? → (Instr.lookup 64 (.map (some r)) (.agg #[.int .u64 a, .int .u64 b]) false).run Yba.prog w' = .ok v w' := fun w' hw' => by
    have q := (hm.of_block hw').lookup law75 Yba.underlying64 (Yba.zeroValue76 w') hkey false
    unfold pk at hf
    rw [hf] at q
    exact q
  obtain ⟨W1, hW1⟩ : ∃ W1, (w.alloc (.cells #[.pointer (some ⟨S, 0, none⟩)] 23)).alloc (.cells #[.int .u64 a, .int .u64 b] 75) = W1 := ⟨_, rfl⟩
  have hb1 : Below w.heap.size w W1 := by rw [← hW1]; exact (below_alloc _ _).trans ((below_alloc _ _).mono (by rw [size_alloc]; omega))
  have lk := hlk W1 (hb1.block r hm.lt)
  have hN : W1.heap[w.heap.size + 1]? = some (.cells #[.int .u64 a, .int .u64 b] 75 (0, 0)) := by rw [← hW1, heap_alloc, if_pos (by rw [size_alloc])]
  have e0 := cell_of (j := 0) hN rfl
  have e1 := cell_of (j := 1) hN rfl
  go_enter Yba.func27, Yba.ntmps27
  go_wp2_with fail
  refine (contains_reps B W m v W1 (own_fr ho (Fr.of_below hb1 (fun _ => False)) (fun _ _ => id))).mono ?_
  rintro e w' ⟨rfl, rfl⟩
  have hd : decide (0 < m) = true := by simpa using hm0
  rw [hd]
  go_wp2
  go_ret
  exact ⟨rfl, hb1⟩
set_option maxHeartbeats 1000000 in
theorem record_new (S r W n : Nat) (f : Value → Option Value) (a b : Int) (ha : (Lit.int .u64 a).wf = true) (hb : (Lit.int .u64 b).wf = true) (w : World) (hm : MapIs Yba.prog 75 w r f n) (hf : f (pk a b) = none) :
    Calls Yba.prog 27 #[.pointer (some ⟨S, 0, none⟩), .map (some r), .pointer (some ⟨W, 0, none⟩), .agg #[.int .u64 a, .int .u64 b]] w fun e w' => e = .returned (.bool true) ∧ ∃ v g, MapIs Yba.prog 75 w' r g (n + 1) ∧ g (pk a b) = some v ∧ (∀ x, x ≠ pk a b → g x = f x) ∧ w'.ownsRow w.heap.size 27 1 v 1 (reps W 1) ∧ Fr (· = r) w w' := by
  obtain ⟨i7, hi7, hz70, hz71, hz72⟩ := info_parts zero27
  obtain ⟨l, hkey⟩ := key75 ha hb
  have hlk : ∀ w' : World, w'.heap[r]? = w.heap[r]? → (Instr.lookup 64 (.map (some r)) (.agg #[.int .u64 a, .int .u64 b]) false).run Yba.prog w' = .ok (.slice none 0 0) w' := fun w' hw' => by
    have q := (hm.of_block hw').lookup law75 Yba.underlying64 (Yba.zeroValue76 w') hkey false
    unfold pk at hf
    rw [hf] at q
    exact q
  obtain ⟨W1, hW1⟩ : ∃ W1, (w.alloc (.cells #[.pointer (some ⟨S, 0, none⟩)] 23)).alloc (.cells #[.int .u64 a, .int .u64 b] 75) = W1 := ⟨_, rfl⟩
  have hb1 : Below w.heap.size w W1 := by rw [← hW1]; exact (below_alloc _ _).trans ((below_alloc _ _).mono (by rw [size_alloc]; omega))
  have lk := hlk W1 (hb1.block r hm.lt)
  have hN : W1.heap[w.heap.size + 1]? = some (.cells #[.int .u64 a, .int .u64 b] 75 (0, 0)) := by rw [← hW1, heap_alloc, if_pos (by rw [size_alloc])]
  have e0 := cell_of (j := 0) hN rfl
  have e1 := cell_of (j := 1) hN rfl
  have hm1 : MapIs Yba.prog 75 W1 r f n := hm.of_block (hb1.block r hm.lt)
  have hs1 := hb1.size
  have lN := lt_of_some hN
  have hmf : ∀ (fn : Fn) (first cap : Array Value) (w : World), (Instr.makeFunc fn first cap).run Yba.prog w = .ok (.func fn first cap) w := fun _ _ _ _ => rfl
  go_enter Yba.func27, Yba.ntmps27
  go_wp2_with fail
  refine (contains_reps 0 W 0 (.slice none 0 0) W1 (World.ownsRow_nil _ _ _ _)).mono ?_
  rintro e w' ⟨rfl, rfl⟩
  have hd : decide (0 < 0) = false := rfl
  rw [hd]
  go_wp2_with fail
  refine (deleteFunc_nil 0 _ w').mono ?_
  rintro e w2 ⟨rfl, rfl⟩
  go_wp2
  have hB2 : w.heap.size ≤ (w2.alloc (.cells #[.pointer (some ⟨W, 0, none⟩)] 27)).heap.size := by rw [size_alloc]; omega
  go_region_law (refine step_append_own rfl _ _ 76 rfl w.heap.size 27 i7 _ 1 8 Yba.underlying76 hi7 hz70 hz71 hz72 rfl (by decide) (.slice none 0 0) 0 [] rfl (World.ownsRow_nil _ _ _ _) ⟨w2.heap.size, 0, none⟩ 1 1 (reps W 1) rfl rfl (newsAt (show (World.alloc w2 _).heap[w2.heap.size]? = _ from by rw [heap_alloc, if_pos rfl] <;> rfl)) (by intro u hu; simp [reps] at hu; rw [hu]; rfl) (by unfold maxLen; omega) (by omega) (by exact hB2) ?_; intro v' w3 ho hg hn hat; have hmm : MapIs Yba.prog 75 w3 r f n := (hm1.alloc _).drew.grown hg (fun e => by cases e); obtain ⟨w4, g, hup, hmp4, hgk, hgx, hgr4, hs4⟩ := hmm.update law75 Yba.underlying64 hkey v'; have hN3 : w3.heap[w.heap.size + 1]? = some (.cells #[.int .u64 a, .int .u64 b] 75 (0, 0)) := (hg.block _ (Nat.lt_of_lt_of_le lN (by show w2.heap.size ≤ (World.alloc w2 _).heap.size; rw [size_alloc]; omega)) (fun e => by cases e)).trans (heap_alloc_old hN); have z0 := cell_of (j := 0) hN3 rfl; have z1 := cell_of (j := 1) hN3 rfl; obtain ⟨av, cv, hve⟩ := own_slice ho; subst hve)
  all_goals
    go_wp2
    go_ret
    unfold pk at hf
    rw [hf] at hmp4
    refine ⟨rfl, _, g, hmp4, hgk, hgx, ho.kept hgr4 (.inr (fun e => ?_)), ?_⟩
    · obtain ⟨cu, hh⟩ := own_tag ho e
      obtain ⟨es, ck, hh2, _⟩ := hmm
      rw [hh2] at hh; cases hh
    · have f1 : Fr (· = r) w w2 := Fr.of_below hb1 _
      have f2 : Fr (· = r) w w3 := (f1.alloc _).drew.trans (Fr.of_grown hg (fun k e => by cases e))
      exact f2.trans (Fr.of_grown hgr4 (fun k e => (Option.some.inj e).symm))
set_option maxRecDepth 100000 in
/-- countReached. -/
theorem count_any (S r n : Nat) (c : Option Int) (f : Value → Option Value) (p : Int) (hp : (Lit.int .u64 p).wf = true) (w : World) (hm : MapIs Yba.prog 22 w r f n) (hf : f (.int .u64 p) = c.map (fun x => .int .i64 x)) (hc : ∀ x, c = some x → 0 ≤ x ∧ x < 1000000) :
    Calls Yba.prog 28 #[.pointer (some ⟨S, 0, none⟩), .map (some r), .int .u64 p] w fun e w' => e = .returned (.bool c.isNone) ∧ ∃ g, MapIs Yba.prog 22 w' r g (if c.isSome then n else n + 1) ∧ g (.int .u64 p) = some (.int .i64 (c.getD 0 + 1)) ∧ (∀ x, x ≠ .int .u64 p → g x = f x) ∧ Fr (· = r) w w' := by
  obtain ⟨l, hkey⟩ := key22 hp
  have lk := hm.lookup law22 Yba.underlying30 (Yba.zeroValue3 w) hkey true
  obtain ⟨w2, g, hup, hmp, hgk, hgx, hgr, hs⟩ := hm.update law22 Yba.underlying30 hkey (.int .i64 (c.getD 0 + 1))
  rw [hf] at lk hmp
  have hfr : Fr (· = r) w w2 := Fr.of_grown hgr (fun k e => (Option.some.inj e).symm)
  cases c with
  | none =>
    have lk2 : (Instr.lookup 30 (.map (some r)) (.int .u64 p) true).run Yba.prog w = .ok (.tuple #[.int .i64 0, .bool false]) w := lk
    have hup2 : (Instr.mapUpdate 30 (.map (some r)) (.int .u64 p) (.int .i64 1)).run Yba.prog w = .ok () w2 := hup
    clear lk hup hf hkey hs hgr
    go_enter Yba.func28, Yba.ntmps28
    go_wp2
    go_ret
    exact ⟨rfl, g, hmp, hgk, hgx, hfr⟩
  | some x =>
    obtain ⟨h0, h1⟩ := hc x rfl
    have lk2 : (Instr.lookup 30 (.map (some r)) (.int .u64 p) true).run Yba.prog w = .ok (.tuple #[.int .i64 x, .bool true]) w := lk
    have hup2 : (Instr.mapUpdate 30 (.map (some r)) (.int .u64 p) (.int .i64 (x + 1))).run Yba.prog w = .ok () w2 := hup
    clear lk hup hf hkey hs hgr
    go_enter Yba.func28, Yba.ntmps28
    go_wp2
    go_ret
    exact ⟨rfl, g, hmp, hgk, hgx, hfr⟩
end Go.Proofs.Ybulkcfri
