import Derived.Test.YbulkcfriTBase
import Derived.Deep.RegionLaw
import Derived.Deep.RegionHeld3
import Derived.Maps.AppendAt
namespace Go.Proofs.Ybulkcfri
open Go.ChangeShapes Go.WideShapes Go.ChangeAt Go.RowKit Go.MuLone
theorem step_append_own {P : Program} {ops : Array Oper} {o : Oper} {a : Act} {w : World} {K : Act → World → Prop} {Q : Exit → Act → World → Prop} {E : Prop}
    (hg : o.guard = none) (s x : Operand) (t : TypeId) (hop : o.op = Op.call { callee := Callee.builtin Builtin.append, args := #[s, x], argTypes := #[t, t] })
    (base : Nat) (e : TypeId) (i : TypeInfo) (z : Value) (size bytes : Nat) (ht : P.underlying t = some (.slice e)) (hi : P.info? e = some i) (hz : i.zero = some z)
    (hsize : i.size = size) (hby : i.bytes = bytes) (hzs : z.cells.size = size) (hsz : 0 < size)
    (v : Value) (n : Nat) (xs : List Value) (hs : a.eval s = v) (hown : w.ownsRow base e size v n xs)
    (ad : Addr) (m c : Nat) (news : List Value) (hx : a.eval x = .slice (some ad) m c) (hl : news.length = m * size) (hnews : ∀ j u, news[j]? = some u → w.cell? (ad.add j) = some u) (h1 : ∀ u ∈ news, u.oneCell' = true)
    (h63 : n + m ≤ maxLen) (hbytes : (n + m) * bytes ≤ 140737488355328) (hbase : base ≤ w.heap.size)
    (h : ∀ v' w', w'.ownsRow base e size v' (n + m) (xs ++ news) → w.grownBy w' v.ownBlock → (v' = .slice none 0 0 ↔ v = .slice none 0 0 ∧ m = 0) → (v'.ownBlock = v.ownBlock ∨ v'.ownBlock = some w.heap.size) → K (a.put o.dst v') w') :
    if Region.wanted o (yielded ops a.tmps) = true then Oper.wp P o a w K Q else E := by
  have hw : Region.wanted o (yielded ops a.tmps) = true := by simp [Region.wanted, hg]
  rw [if_pos hw]
  obtain ⟨v', w', hr, h2, h3, h4, h5⟩ := run_append_own_at (P := P) w base t o.type e i z size bytes ht hi hz hsize hby hzs hsz v n xs hown ad m c news hl hnews h1 h63 hbytes hbase
  unfold Oper.wp
  simp only [execOp, hop, resolve, invoke, builtin, Sem.run_bind, Sem.run_pure, Result.andThen_ok, List.map_toArray, List.map_cons, List.map_nil, hs, hx, hr]
  exact h v' w' h2 h3 h4 h5
def rowOf (ms : List (ByteArray × ByteArray)) : List Value := ms.flatMap fun p => msgOf p.1 p.2
theorem own_tag {w : World} {base : Nat} {e : TypeId} {size n : Nat} {v : Value} {xs : List Value} (h : w.ownsRow base e size v n xs) {g : Nat} (hg : v.ownBlock = some g) : ∃ cur, w.heap[g]? = some (.cells cur e (0, 0)) := by
  rcases h.2 with ⟨rfl, _⟩ | ⟨g', cap, cur, rfl, hb, hh, _⟩
  · simp [Value.ownBlock] at hg
  · simp [Value.ownBlock] at hg; subst hg; exact ⟨cur, hh⟩
theorem own_fr {X : Nat → Prop} {w w' : World} {base : Nat} {e : TypeId} {size n : Nat} {v : Value} {xs : List Value} (h : w.ownsRow base e size v n xs) (hf : Fr X w w') (hx : ∀ g, v.ownBlock = some g → ¬ X g) : w'.ownsRow base e size v n xs := by
  refine ⟨h.1, ?_⟩
  rcases h.2 with hn | ⟨g, cap, cur, rfl, hb, hgg, rest⟩
  · exact .inl hn
  · exact .inr ⟨g, cap, cur, rfl, hb, (hf.block g (lt_of_some hgg) (hx g rfl)).trans hgg, rest⟩
theorem own_slice {w : World} {base : Nat} {e : TypeId} {size n : Nat} {v : Value} {xs : List Value} (h : w.ownsRow base e size v n xs) : ∃ a c, v = .slice a n c := by
  rcases h.2 with ⟨rfl, rfl⟩ | ⟨g, cap, cur, rfl, _⟩
  · exact ⟨_, _, rfl⟩
  · exact ⟨_, _, rfl⟩
theorem tag_ne {w : World} {a b : Nat} {c d : Array Value} {s t : TypeId} (ha : w.heap[a]? = some (.cells c s (0, 0))) (hb : w.heap[b]? = some (.cells d t (0, 0))) (h : s ≠ t) : a ≠ b := by
  rintro rfl
  rw [ha] at hb
  injection hb with hb
  injection hb with _ hb _
  exact h hb
theorem newsAt {w : World} {g : Nat} {cs : List Value} {t : TypeId} (h : w.heap[g]? = some (.cells cs.toArray t (0, 0))) (j : Nat) (u : Value) (hj : cs[j]? = some u) : w.cell? ((⟨g, 0, none⟩ : Addr).add j) = some u := by
  have : (⟨g, 0, none⟩ : Addr).add j = ⟨g, j, none⟩ := by unfold Addr.add; split <;> simp_all
  rw [this]
  exact cell_of h (by simpa using hj)
theorem msg_one (a b : ByteArray) : ∀ u ∈ msgOf a b, u.oneCell' = true := by
  intro u hu
  simp [msgOf] at hu
  rcases hu with rfl | rfl | rfl | rfl | rfl | rfl | rfl <;> rfl
theorem size_alloc (w : World) (o : Obj) : (w.alloc o).heap.size = w.heap.size + 1 := by simp
set_option maxHeartbeats 1000000 in
theorem send_free (B M : Nat) (v : Value) (ms : List (ByteArray × ByteArray)) (h : Nat) (hm : Value) (a b : ByteArray) (w : World) (hB : B ≤ M) (hM : w.heap[M]? = some (.cells (tCells 0 v h hm) 96 (0, 0))) (hown : w.ownsRow B 49 13 v ms.length (rowOf ms)) (hlen : ms.length < 1000000)
    (hlk : ∀ o1 o2 n, (Instr.lookup 94 hm (.agg #[.string a, .string b]) true).run Yba.prog ((((w.setCell ⟨M, 2, none⟩ (.int .i32 1)).alloc o1).alloc o2).drewN n) = .ok (.tuple #[.slice none 0 0, .bool false]) ((((w.setCell ⟨M, 2, none⟩ (.int .i32 1)).alloc o1).alloc o2).drewN n)) :
    Calls Yba.prog 14 #[.pointer (some ⟨M, 0, none⟩), .agg (msgOf a b).toArray] w fun e w' => e = .returned (.tuple #[]) ∧ ∃ v', w'.heap[M]? = some (.cells (tCells 0 v' h hm) 96 (0, 0)) ∧ w'.ownsRow B 49 13 v' (ms.length + 1) (rowOf (ms ++ [(a, b)])) ∧ Fr (fun k => k = M ∨ v.ownBlock = some k) w w' ∧ (v'.ownBlock = v.ownBlock ∨ ∃ g, v'.ownBlock = some g ∧ w.heap.size ≤ g) := by
  obtain ⟨i9, hi9, hz90, hz91, hz92⟩ := info_parts zero49
  have lM := lt_of_some hM
  have c2 : w.cell? ⟨M, 2, none⟩ = some (.int .i32 0) := cell_of hM rfl
  have c7 : w.cell? ⟨M, 7, none⟩ = some hm := cell_of hM rfl
  have hfz : ∀ q, w.frozen? ⟨M, q, none⟩ = false := fun q => free_of hM
  unfold msgOf
  go_enter_defers Yba.func14, Yba.ntmps14
  go_wp2_with fail
  refine (lock_free muLib ⟨M, 2, none⟩ _ (cell_alloc_old c2) (free_of (heap_alloc_old hM))).mono ?_
  rintro e w' ⟨rfl, rfl⟩
  go_wp2
  go_quiet (fail)
  go_wp2
  generalize hW : World.drewN _ _ = W
  have hMW : W.heap[M]? = some (.cells (tCells 1 v h hm) 96 (0, 0)) := by
    rw [← hW]
    show (World.alloc (World.alloc _ _) _).heap[M]? = _
    exact heap_alloc_old (heap_alloc_old (heap_setCell_same hM))
  have hNW : W.heap[w.heap.size]? = some (.cells #[.int .i64 0, .string a, .string b, .int .u64 0, .int .u64 0, .int .u64 0, .int .u64 0, .int .u64 0, .string ⟨#[]⟩, .slice none 0 0, .slice none 0 0, .bool false, .bool false] 49 (0, 0)) := by
    rw [← hW]
    show (World.alloc (World.alloc (World.setCell w _ _) _) _).heap[w.heap.size]? = _
    rw [heap_alloc, if_neg (by rw [size_alloc, size_setCell]; omega), heap_alloc, if_pos (by rw [size_setCell])]
  have frW : Fr (· = M) w W := by rw [← hW]; exact ((((Fr.refl (· = M) w).setCell (W := M) rfl _ _).alloc _).alloc _).drewN _
  have ownW : W.ownsRow B 49 13 v ms.length (rowOf ms) := own_fr hown frW (fun g hg => by
    obtain ⟨cu, hh⟩ := own_tag hown hg
    exact tag_ne hh hM (by decide))
  clear hW hlk c2 c7 hfz
  have hsz := frW.size
  generalize hNe : w.heap.size = N at *
  obtain ⟨a5, c5, rfl⟩ := own_slice hown
  have m0 := cell_of (j := 0) hNW rfl
  have m1 := cell_of (j := 1) hNW rfl
  have m2 := cell_of (j := 2) hNW rfl
  have m3 := cell_of (j := 3) hNW rfl
  have m4 := cell_of (j := 4) hNW rfl
  have m5 := cell_of (j := 5) hNW rfl
  have m6 := cell_of (j := 6) hNW rfl
  have m7 := cell_of (j := 7) hNW rfl
  have m8 := cell_of (j := 8) hNW rfl
  have m9 := cell_of (j := 9) hNW rfl
  have m10 := cell_of (j := 10) hNW rfl
  have m11 := cell_of (j := 11) hNW rfl
  have m12 := cell_of (j := 12) hNW rfl
  have d5 : W.cell? ⟨M, 5, none⟩ = some (.slice a5 ms.length c5) := cell_of hMW rfl
  have hl1 : ms.length + 1 ≤ maxLen := by unfold maxLen; omega
  have hl2 : (ms.length + 1) * 152 ≤ 140737488355328 := by omega
  have hBW : B ≤ W.heap.size := by have := lt_of_some hMW; omega
  have hMne : some M ≠ Value.ownBlock (.slice a5 ms.length c5) := fun e => by
    obtain ⟨cu, hh⟩ := own_tag ownW e.symm
    exact tag_ne hh hMW (by decide) rfl
  have lMW := lt_of_some hMW
  have lNW := lt_of_some hNW
  refine wp_region_noPanic ?_
  go_region_law (refine step_append_own rfl _ _ 33 rfl B 49 i9 _ 13 152 Yba.underlying33 hi9 hz90 hz91 hz92 rfl (by decide) (.slice a5 ms.length c5) ms.length (rowOf ms) rfl (own_fr ownW (((Fr.refl (fun _ => False) W).alloc _).drew) (fun _ _ => id)) ⟨W.heap.size, 0, none⟩ 1 1 (msgOf a b) rfl rfl (newsAt (show (World.alloc W _).heap[W.heap.size]? = _ from by rw [heap_alloc, if_pos rfl]; rfl)) (msg_one a b) hl1 hl2 (Nat.le_trans hBW (Nat.le_of_lt (by show W.heap.size < (World.alloc W _).heap.size; rw [size_alloc]; omega))) ?_; intro v' w1 ho hg hn hat; have hM1 : w1.heap[M]? = some (.cells (tCells 1 (.slice a5 ms.length c5) h hm) 96 (0, 0)) := (hg.block M (Nat.lt_of_lt_of_le (lt_of_some hMW) (by show W.heap.size ≤ (World.alloc W _).heap.size; rw [size_alloc]; omega)) hMne).trans (heap_alloc_old hMW); obtain ⟨a6, c6, hv6⟩ := own_slice ho; subst hv6; have e5 : w1.cell? ⟨M, 5, none⟩ = some (.slice a5 ms.length c5) := cell_of hM1 rfl; have f5 : w1.frozen? ⟨M, 5, none⟩ = false := free_of hM1)
  all_goals
    refine NoPanic.normal ?_
    refine leaves_cons (f := 22) (args := #[.pointer (some ⟨M, 2, none⟩)]) (by simp) (by simp [go_sem]) ?_
    refine (unlock_deferred muLib ⟨M, 2, none⟩ .returning _ ?_ ?_).mono ?_
    · exact cell_of (heap_setCell_same hM1) rfl
    · exact free_of (heap_setCell_same hM1)
    rintro e u' w'' ⟨rfl, rfl, rfl⟩
    refine ⟨_, results_none rfl _ _ _, rfl, _, by rw [heap_setCell_same (heap_setCell_same hM1)]; rfl, ?_, ?_, ?_⟩
    · rw [show rowOf (ms ++ [(a, b)]) = rowOf ms ++ msgOf a b by simp [rowOf]]
      refine own_fr ho (((Fr.refl (· = M) w1).setCell (W := M) rfl _ _).setCell (W := M) rfl _ _) (fun g hgg => ?_)
      obtain ⟨cu, hh⟩ := own_tag ho hgg
      exact tag_ne hh hM1 (by decide)
    · have f1 : Fr (fun k => k = M ∨ (Value.slice a5 ms.length c5).ownBlock = some k) w W := frW.mono (fun k _ e => .inl e)
      have f2 : Fr (fun k => k = M ∨ (Value.slice a5 ms.length c5).ownBlock = some k) w w1 := (f1.alloc _).drew.trans (Fr.of_grown hg (fun k e => .inr e))
      exact (f2.setCell (W := M) (.inl rfl) _ _).setCell (W := M) (.inl rfl) _ _
    · rcases hat with q | q
      · exact .inl q
      · refine .inr ⟨_, q, ?_⟩
        show w.heap.size ≤ (World.alloc W _).heap.size
        rw [size_alloc, hNe]; omega
end Go.Proofs.Ybulkcfri
