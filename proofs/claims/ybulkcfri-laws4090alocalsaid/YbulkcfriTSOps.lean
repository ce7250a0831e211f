import Derived.Test.YbulkcfriTS
namespace Go.Proofs.Ybulkcfri
open Go.ChangeShapes Go.WideShapes Go.ChangeAt Go.RowKit Go.MuLone
section
variable {B M N : Nat} {w : World} {fl : List Pr} {H : Nat → Option (List Pr)} {n : Nat}
theorem send_ts_free (a b : Nat) (ht : TS B M N w fl H n) (hN : N < 999999) (hk : H (ix a b) = none) :
    Calls Yba.prog 14 #[.pointer (some ⟨M, 0, none⟩), .agg (msgOf (nm a) (nm b)).toArray] w fun e w' => e = .returned (.tuple #[]) ∧ TS B M (N + 1) w' (fl ++ [(nm a, nm b)]) H n ∧ Kept B w w' := by
  obtain ⟨v, h, hm, ms, V, f, ht, rfl⟩ := ht
  have hfk : f (.agg #[.string (nm a), .string (nm b)]) = none := by rw [← ky_ix, ht.key _ (ix_lt a b), hk]; rfl
  have hlk := looks_none (nm_size a) (nm_size b) hfk ht.map.plain
  have hb := ht.bound
  refine (send_free B M v ms h hm (nm a) (nm b) w ht.bm ht.blk ht.own (by omega) (fun o1 o2 k => (hlk _ (fun r hr => ?_)).1)).mono ?_
  · have fr : Fr (· = M) w ((((w.setCell ⟨M, 2, none⟩ (.int .i32 1)).alloc o1).alloc o2).drewN k) := ((((Fr.refl (· = M) w).setCell (W := M) rfl _ _).alloc _).alloc _).drewN k
    exact fr.block r (ht.mapM r hr).2.1 (ht.mapM r hr).1
  · rintro e w' ⟨rfl, v', hM', hown', hf', hb'⟩
    have hl : (ms ++ [(nm a, nm b)]).length = ms.length + 1 := by simp
    rw [← hl] at hown'
    obtain ⟨h1, h2⟩ := ht.reflight (N' := N + 1) hM' hown' (by rw [hl]; have := ht.hh; omega) (by rw [hl]; omega) (by omega) hf' hb'
    exact ⟨rfl, ⟨_, _, _, _, _, _, h1, by rw [List.drop_append_of_le_length ht.hh]⟩, h2⟩
theorem send_ts_held (a b : Nat) (q : List Pr) (ht : TS B M N w fl H n) (hN : N < 999999) (hk : H (ix a b) = some q) :
    Calls Yba.prog 14 #[.pointer (some ⟨M, 0, none⟩), .agg (msgOf (nm a) (nm b)).toArray] w fun e w' => e = .returned (.tuple #[]) ∧ TS B M (N + 1) w' fl (upd H (ix a b) (some (q ++ [(nm a, nm b)]))) n ∧ Kept B w w' := by
  obtain ⟨v, h, hm, ms, V, f, ht, rfl⟩ := ht
  have hi := ix_lt a b
  have hky := ky_ix a b
  generalize hkk : ix a b = k at *
  have hfk : f (.agg #[.string (nm a), .string (nm b)]) = some (V k) := by rw [← hky, ht.key _ hi, hk]; rfl
  have hb := ht.bound
  have htq := tot_upd H hi (some (q ++ [(nm a, nm b)]))
  have hlq := le_tot H hi
  rw [hk] at htq hlq
  simp at htq hlq
  rcases ht.map with ⟨e, _, e2⟩ | ⟨r, rfl, hBr, hmp⟩
  · rw [e2] at hfk; cases hfk
  have howq := ht.rows k q hi hk
  refine (send_held B M r n v (V k) q h f (nm a) (nm b) (nm_size a) (nm_size b) w ht.bm ht.blk hmp hfk howq (by omega)).mono ?_
  rintro e w' ⟨rfl, vq', g, hM', hown', hmap', hgk, hgx, hf', hb'⟩
  have hl : (q ++ [(nm a, nm b)]).length = q.length + 1 := by simp
  rw [← hl] at hown'
  obtain ⟨es, ck, hrr, _⟩ := hmp
  have hnr : ∀ {u : Value} {m : Nat} {xs : List Value} {j : Nat}, w.ownsRow B 49 13 u m xs → u.ownBlock = some j → j ≠ M ∧ j ≠ r := fun ho hj => by
    obtain ⟨cu, h3⟩ := own_tag ho hj
    refine ⟨tag_ne h3 ht.blk (by decide), fun e => ?_⟩
    rw [e, hrr] at h3; cases h3
  refine ⟨rfl, ⟨v, h, .map (some r), ms, fun j => if j = k then vq' else V j, g, ⟨hM', ht.bm, own_fr ht.own hf' (fun j hj => ?_), ht.hh, by omega, .inr ⟨r, rfl, hBr, hmap'⟩, fun j hj => ?_, fun j x hj hx => ?_, fun j x d hj hx hd => ?_, fun j j' x x' d hj hj' hne hx hx' hd => ?_, Nat.le_succ_of_le ht.nb⟩, rfl⟩, hf'.mono (fun j _ e => ?_)⟩
  · rintro (e | e | e)
    · exact (hnr ht.own hj).1 e
    · exact (hnr ht.own hj).2 e
    · exact ht.apart k q j hi hk e hj
  · by_cases e : j = k
    · rw [e, upd_same, hky, hgk]; simp
    · rw [upd_other _ _ e, hgx _ (fun e2 => e (ky_inj hj hi (e2.trans hky.symm))), ht.key j hj]; simp [e]
  · by_cases e : j = k
    · rw [e, upd_same] at hx; cases hx; simp only [e, if_true]; exact hown'
    · rw [upd_other _ _ e] at hx; simp only [e, if_false]
      refine own_fr (ht.rows j x hj hx) hf' (fun d hd => ?_)
      rintro (e2 | e2 | e2)
      · exact (hnr (ht.rows j x hj hx) hd).1 e2
      · exact (hnr (ht.rows j x hj hx) hd).2 e2
      · exact ht.apart2 j k x q d hj hi e hx hk hd e2
  · by_cases e : j = k
    · simp only [e, if_true] at hd
      rcases hb' with e2 | ⟨d', e2, hl2⟩
      · exact ht.apart k q d hi hk (by rw [← e2]; exact hd)
      · intro e3; rw [e2] at hd; have := own_lt ht.own e3; have := Option.some.inj hd; omega
    · rw [upd_other _ _ e] at hx; simp only [e, if_false] at hd; exact ht.apart j x d hj hx hd
  · by_cases e : j = k
    · have e' : j' ≠ k := fun e2 => hne (e.trans e2.symm)
      rw [upd_other _ _ e'] at hx'
      simp only [e, if_true] at hd
      simp only [e', if_false]
      rcases hb' with e2 | ⟨d', e2, hl2⟩
      · rw [e2] at hd; exact ht.apart2 k j' q x' d hi hj' (Ne.symm e') hk hx' hd
      · intro e3; rw [e2] at hd; have := own_lt (ht.rows j' x' hj' hx') e3; have := Option.some.inj hd; omega
    · rw [upd_other _ _ e] at hx
      simp only [e, if_false] at hd
      by_cases e' : j' = k
      · simp only [e', if_true]
        rcases hb' with e2 | ⟨d', e2, hl2⟩
        · rw [e2]; exact ht.apart2 j k x q d hj hi e hx hk hd
        · intro e3; rw [e2] at e3; have := own_lt (ht.rows j x hj hx) hd; have := Option.some.inj e3; omega
      · rw [upd_other _ _ e'] at hx'
        simp only [e', if_false]
        exact ht.apart2 j j' x x' d hj hj' hne hx hx' hd
  · rcases e with rfl | rfl | e
    · exact ht.foot
    · exact ⟨hBr, .inr (.inr ⟨es, ck, hrr⟩)⟩
    · obtain ⟨cu, h3⟩ := own_tag howq e
      exact ⟨own_B howq e, .inl ⟨_, h3⟩⟩
theorem hold_ts_known (a b : Nat) (q : List Pr) (ht : TS B M N w fl H n) (hk : H (ix a b) = some q) :
    Calls Yba.prog 15 #[.pointer (some ⟨M, 0, none⟩), .string (nm a), .string (nm b)] w fun e w' => e = .returned (.tuple #[]) ∧ TS B M N w' fl H n ∧ Kept B w w' := by
  obtain ⟨v, h, hm, ms, V, f, ht, rfl⟩ := ht
  have hfk : f (.agg #[.string (nm a), .string (nm b)]) = some (V (ix a b)) := by rw [← ky_ix, ht.key _ (ix_lt a b), hk]; rfl
  have hlk : Looks w hm (nm a) (nm b) (V (ix a b)) true := by
    rcases ht.map with ⟨e, _, e2⟩ | ⟨r, rfl, hBr, hmp⟩
    · rw [e2] at hfk; cases hfk
    · have := looks_map hmp (nm_size a) (nm_size b)
      rw [hfk] at this
      exact this
  refine (hold_known M h v (V (ix a b)) hm (nm a) (nm b) w ht.blk hlk (fun r hr => ⟨(ht.mapM r hr).1, (ht.mapM r hr).2.1⟩)).mono ?_
  rintro e w' ⟨rfl, hM', hf'⟩
  have hf2 : Fr (fun k => k = M ∨ v.ownBlock = some k) w w' := hf'.mono (fun k _ e => .inl e)
  obtain ⟨h1, h2⟩ := ht.reflight hM' (own_fr ht.own hf' (fun g hg => by obtain ⟨cu, hh⟩ := own_tag ht.own hg; exact tag_ne hh ht.blk (by decide))) ht.hh ht.bound (Nat.le_refl _) hf2 (.inl rfl)
  exact ⟨rfl, ⟨_, _, _, _, _, _, h1, rfl⟩, h2⟩
theorem filter_two {α : Type} (p : α → Bool) (l : List α) : (l.filter p).length + (l.filter (fun x => !p x)).length = l.length := by
  induction l with
  | nil => rfl
  | cons x r ih => cases hp : p x <;> simp [hp] <;> omega
theorem tot_hold (H : Nat → Option (List Pr)) {k : Nat} (hk : k < 9) (h0 : H k = none) (l : List Pr) (p : Pr → Bool) : (l.filter (fun x => !p x)).length + tot (upd H k (some (l.filter p))) = l.length + tot H := by
  have h1 := tot_upd H hk (some (l.filter p))
  have h2 := filter_two p l
  rw [h0] at h1
  simp only [Option.getD_none, Option.getD_some, List.length_nil] at h1
  omega
theorem hold_ts_new (a b : Nat) (ht : TS B M N w fl H n) (hN : N < 1000000) (hk : H (ix a b) = none) :
    Calls Yba.prog 15 #[.pointer (some ⟨M, 0, none⟩), .string (nm a), .string (nm b)] w fun e w' => e = .returned (.tuple #[]) ∧ TS B M (N + 1) w' (fl.filter (fun x => !eqb x (nm a, nm b))) (upd H (ix a b) (some (fl.filter (fun x => eqb x (nm a, nm b))))) (n + 1) ∧ Kept B w w' := by
  obtain ⟨v, h, hm, ms, V, f, ht, rfl⟩ := ht
  have hi := ix_lt a b
  have hky := ky_ix a b
  generalize hkk : ix a b = k at *
  have hfk : f (.agg #[.string (nm a), .string (nm b)]) = none := by rw [← hky, ht.key _ hi, hk]; rfl
  have hb := ht.bound
  have hhh := ht.hh
  have lM := lt_of_some ht.blk
  have hbm := ht.bm
  have key : Calls Yba.prog 15 #[.pointer (some ⟨M, 0, none⟩), .string (nm a), .string (nm b)] w fun e w' => e = .returned (.tuple #[]) ∧ Held1 M hm f n (ms.drop h) (nm a) (nm b) w w' := by
    rcases ht.own.2 with ⟨e, hl⟩ | ⟨g, cap, cur, e, _⟩
    · have h0 : h = 0 := by omega
      have hm0 : ms = [] := List.length_eq_zero_iff.1 hl
      have hM := ht.blk
      subst e h0 hm0
      exact hold_nil M n hm f (nm a) (nm b) (nm_size a) (nm_size b) w hM hfk ht.map.plain
    · have hM := ht.blk
      have ho := ht.own
      subst e
      exact hold_some B M g h ms.length cap n hm f ms (nm a) (nm b) (nm_size a) (nm_size b) w hM ho ht.hh (by omega) hfk ht.map.plain
  refine key.mono ?_
  rintro e w' ⟨rfl, vq, vr, r, g, hM', hoq, hor, hdis, hmap', hgk, hgx, hr, hf'⟩
  have hbnd : ((ms.drop h).filter (fun x => !eqb x (nm a, nm b))).length + tot (upd H k (some ((ms.drop h).filter (fun x => eqb x (nm a, nm b))))) ≤ N := by
    refine Nat.le_trans (Nat.le_of_eq (tot_hold H hi hk (ms.drop h) (fun x => eqb x (nm a, nm b)))) ?_
    rw [List.length_drop]; omega
  have hold : ∀ {u : Value} {m : Nat} {xs : List Value} {j : Nat}, w.ownsRow B 49 13 u m xs → u.ownBlock = some j → ¬ (j = M ∨ hm = .map (some j)) := fun ho hj => by
    obtain ⟨cu, h3⟩ := own_tag ho hj
    rintro (e | e)
    · exact tag_ne h3 ht.blk (by decide) e
    · rcases ht.map with ⟨e2, _⟩ | ⟨r', e2, _, es, ck, hh, _⟩
      · rw [e] at e2; cases e2
      · rw [e] at e2; cases e2; rw [hh] at h3; cases h3
  refine ⟨rfl, ⟨vr, 0, .map (some r), _, fun j => if j = k then vq else V j, g, ⟨hM', ht.bm, own_base hor (by omega), Nat.zero_le _, Nat.le_succ_of_le hbnd, .inr ⟨r, rfl, ?_, hmap'⟩, fun j hj => ?_, fun j x hj hx => ?_, fun j x d hj hx hd => ?_, fun j j' x x' d hj hj' hne hx hx' hd => ?_, Nat.succ_le_succ ht.nb⟩, rfl⟩, hf'.mono (fun j _ e => ?_)⟩
  · rcases hr with e | e
    · exact (ht.footM e).1
    · omega
  · by_cases e : j = k
    · rw [e, upd_same, hky, hgk]; simp
    · rw [upd_other _ _ e, hgx _ (fun e2 => e (ky_inj hj hi (e2.trans hky.symm))), ht.key j hj]; simp [e]
  · by_cases e : j = k
    · rw [e, upd_same] at hx; cases hx; simp only [e, if_true]; exact own_base hoq (by omega)
    · rw [upd_other _ _ e] at hx; simp only [e, if_false]
      exact own_fr (ht.rows j x hj hx) hf' (fun d hd => hold (ht.rows j x hj hx) hd)
  · by_cases e : j = k
    · simp only [e, if_true] at hd; exact hdis d hd
    · rw [upd_other _ _ e] at hx; simp only [e, if_false] at hd
      intro e2; have := own_lt (ht.rows j x hj hx) hd; have := own_B hor e2; omega
  · by_cases e : j = k
    · have e' : j' ≠ k := fun e2 => hne (e.trans e2.symm)
      rw [upd_other _ _ e'] at hx'
      simp only [e, if_true] at hd
      simp only [e', if_false]
      intro e2; have := own_lt (ht.rows j' x' hj' hx') e2; have := own_B hoq hd; omega
    · rw [upd_other _ _ e] at hx
      simp only [e, if_false] at hd
      by_cases e' : j' = k
      · simp only [e', if_true]
        intro e2; have := own_lt (ht.rows j x hj hx) hd; have := own_B hoq e2; omega
      · rw [upd_other _ _ e'] at hx'
        simp only [e', if_false]
        exact ht.apart2 j j' x x' d hj hj' hne hx hx' hd
  · rcases e with rfl | e
    · exact ht.foot
    · exact ht.footM e
theorem del_nil (w : World) (ty : TypeId) {a b : ByteArray} (ha : a.size ≤ maxLen) (hb : b.size ≤ maxLen) : (Builtin.delete_ #[94, 102] ty #[.map none, .agg #[.string a, .string b]]).run Yba.prog w = .ok (.tuple #[]) w := by
  obtain ⟨l, hk⟩ := key102 ha hb
  have hc := law102.check w true hk
  simp [Builtin.delete_, run_underlying Yba.underlying94, hc]
theorem MapIs.pos {P : Program} {K : TypeId} {w : World} {r n : Nat} {f : Value → Option Value} (h : MapIs P K w r f n) {k v : Value} (hk : f k = some v) : 1 ≤ n := by
  obtain ⟨es, clock, hh, _, _, _, _, hsem, hs⟩ := h
  obtain ⟨e, he, _⟩ := (hsem k v).1 hk
  have := List.length_pos_of_mem he
  simp at this; omega
def DelR (hm : Value) (f : Value → Option Value) (n : Nat) (k : Value) (w' w'' : World) : Prop := (hm = .map none ∧ w'' = w') ∨ ∃ r g, hm = .map (some r) ∧ MapIs Yba.prog 102 w'' r g (if (f k).isSome then n - 1 else n) ∧ g k = none ∧ (∀ x, x ≠ k → g x = f x) ∧ w'.grownBy w'' (some r)
theorem del_run {B n : Nat} {w : World} {hm : Value} {f : Value → Option Value} (hmap : HMap B w hm f n) {a b : ByteArray} (ha : a.size ≤ maxLen) (hb : b.size ≤ maxLen) (w' : World) (ty : TypeId) (hw : ∀ r, hm = .map (some r) → w'.heap[r]? = w.heap[r]?) :
    ∃ w'', (Builtin.delete_ #[94, 102] ty #[hm, .agg #[.string a, .string b]]).run Yba.prog w' = .ok (.tuple #[]) w'' ∧ DelR hm f n (.agg #[.string a, .string b]) w' w'' := by
  rcases hmap with ⟨rfl, _, _⟩ | ⟨r, rfl, _, hmp⟩
  · exact ⟨w', del_nil w' ty ha hb, .inl ⟨rfl, rfl⟩⟩
  · obtain ⟨l, hk⟩ := key102 ha hb
    obtain ⟨w'', g, h1, h2, h3, h4, h5, _⟩ := (hmp.of_block (hw r rfl)).delete law102 Yba.underlying94 hk ty 102
    exact ⟨w'', h1, .inr ⟨r, g, rfl, h2, h3, h4, h5⟩⟩
/-- A release: the row in flight turned, the key struck. -/
theorem TS0.release {v : Value} {h : Nat} {hm : Value} {ms : List Pr} {V : Nat → Value} {f : Value → Option Value} (ht : TS0 B M N w v h hm ms V f H n) {k : Nat} (hk : k < 9) {w1 w2 : World} {v' : Value} {ms' : List Pr} (hM : w1.heap[M]? = some (.cells (tCells 1 v' h hm) 96 (0, 0))) (hown : w1.ownsRow B 49 13 v' ms'.length (rowOf ms')) (hh : h ≤ ms'.length) (hN : ms'.length + tot (upd H k none) ≤ N)
    (hf : Fr (fun k => k = M ∨ v.ownBlock = some k) w w1) (hb : v'.ownBlock = v.ownBlock ∨ ∃ g, v'.ownBlock = some g ∧ w.heap.size ≤ g) (hd : DelR hm f n (ky k) w1 w2) :
    (∃ f', TS0 B M N (w2.setCell ⟨M, 2, none⟩ (.int .i32 0)) v' h hm ms' V f' (upd H k none) (if (H k).isSome then n - 1 else n)) ∧ Kept B w (w2.setCell ⟨M, 2, none⟩ (.int .i32 0)) := by
  have hfr2 : Fr (fun j => hm = .map (some j)) w1 w2 := by
    rcases hd with ⟨_, e⟩ | ⟨r, g, e, _, _, _, hg⟩
    · rw [e]; exact Fr.refl _ _
    · exact Fr.of_grown hg (fun j ej => by rw [e]; rw [ej])
  have hmM : ∀ r, hm = .map (some r) → r ≠ M := fun r hr => (ht.mapM r hr).1
  have hM2 : w2.heap[M]? = some (.cells (tCells 1 v' h hm) 96 (0, 0)) := (hfr2.block M (lt_of_some hM) (fun e => hmM M e rfl)).trans hM
  have hfr3 : Fr (· = M) w2 (w2.setCell ⟨M, 2, none⟩ (.int .i32 0)) := (Fr.refl (· = M) w2).setCell (W := M) rfl _ _
  have hM3 : (w2.setCell ⟨M, 2, none⟩ (.int .i32 0)).heap[M]? = some (.cells (tCells 0 v' h hm) 96 (0, 0)) := by rw [heap_setCell_same hM2]; rfl
  have hall : Fr (fun j => j = M ∨ v.ownBlock = some j ∨ hm = .map (some j)) w (w2.setCell ⟨M, 2, none⟩ (.int .i32 0)) :=
    ((hf.mono (fun j _ e => e.imp id .inl)).trans (hfr2.mono (fun j _ e => .inr (.inr e)))).trans (hfr3.mono (fun j _ e => .inl e))
  have h23 : Fr (fun j => j = M ∨ hm = .map (some j)) w1 (w2.setCell ⟨M, 2, none⟩ (.int .i32 0)) := (hfr2.mono (fun j _ e => .inr e)).trans (hfr3.mono (fun j _ e => .inl e))
  generalize w2.setCell ⟨M, 2, none⟩ (.int .i32 0) = wF at *
  have hm1 : HMap B w1 hm f n := ht.map.fr hf (fun r es ck hr hh2 => by
    rintro (e | e)
    · exact (ht.mapM r hr).1 e
    · exact (ht.mapM r hr).2.2 e)
  have hnm : ∀ {j : Nat} {c : Array Value}, w1.heap[j]? = some (.cells c 49 (0, 0)) → ¬ (j = M ∨ hm = .map (some j)) := fun hh3 => by
    rintro (e | e)
    · exact tag_ne hh3 hM (by decide) e
    · rcases hm1 with ⟨e2, _⟩ | ⟨r', e2, _, es, ck, hh4, _⟩
      · rw [e] at e2; cases e2
      · rw [e] at e2; cases e2; rw [hh4] at hh3; cases hh3
  have hrow1 : ∀ j x, j < 9 → H j = some x → w1.ownsRow B 49 13 (V j) x.length (rowOf x) := fun j x hj hx => own_fr (ht.rows j x hj hx) hf (fun d hd => by
    rintro (e | e)
    · obtain ⟨cu, h3⟩ := own_tag (ht.rows j x hj hx) hd
      exact tag_ne h3 ht.blk (by decide) e
    · exact ht.apart j x d hj hx hd e)
  have hkept : Kept B w wF := hall.mono (fun j _ e => by
    rcases e with rfl | e | e
    · exact ht.foot
    · exact ht.footV e
    · exact ht.footM e)
  have hH : ∀ j x, upd H k none j = some x → j ≠ k ∧ H j = some x := fun j x hx => by
    by_cases e : j = k
    · rw [e, upd_same] at hx; cases hx
    · exact ⟨e, by rwa [upd_other _ _ e] at hx⟩
  have mk : ∀ f' n', n' ≤ N → HMap B wF hm f' n' → (∀ j, j < 9 → f' (ky j) = (upd H k none j).map fun _ => V j) → TS0 B M N wF v' h hm ms' V f' (upd H k none) n' := fun f' n' hnn hmp hkey =>
    ⟨hM3, ht.bm, own_fr hown h23 (fun d hd => by obtain ⟨cu, h3⟩ := own_tag hown hd; exact hnm h3), hh, hN, hmp, hkey, fun j x hj hx => own_fr (hrow1 j x hj (hH j x hx).2) h23 (fun d hd => by obtain ⟨cu, h3⟩ := own_tag (hrow1 j x hj (hH j x hx).2) hd; exact hnm h3), fun j x d hj hx hd => by
      rcases hb with e | ⟨g', e, hl⟩
      · rw [e]; exact ht.apart j x d hj (hH j x hx).2 hd
      · rw [e]; intro e2; have := own_lt (ht.rows j x hj (hH j x hx).2) hd; have := Option.some.inj e2; omega, fun j j' x x' d hj hj' hne hx hx' hd => ht.apart2 j j' x x' d hj hj' hne (hH j x hx).2 (hH j' x' hx').2 hd, hnn⟩
  refine ⟨?_, hkept⟩
  have hfk : (f (ky k)).isSome = (H k).isSome := by rw [ht.key k hk]; cases H k <;> rfl
  have hnN : (if (H k).isSome then n - 1 else n) ≤ N := by have := ht.nb; split <;> omega
  rcases hd with ⟨e, e2⟩ | ⟨r, g, e, hmp, hgk, hgx, hg⟩
  · rcases ht.map with ⟨_, hn, hf0⟩ | ⟨r', e3, _⟩
    · have hHn : ∀ j, j < 9 → H j = none := fun j hj => by
        have := ht.key j hj
        rw [hf0] at this
        cases hq : H j with
        | none => rfl
        | some x => rw [hq] at this; cases this
      refine ⟨f, mk f _ hnN ?_ (fun j hj => ?_)⟩
      · rw [hHn k hk]; exact .inl ⟨e, hn, hf0⟩
      · by_cases ej : j = k
        · rw [ej, upd_same, ht.key k hk, hHn k hk]
        · rw [upd_other _ _ ej]; exact ht.key j hj
    · rw [e] at e3; cases e3
  · refine ⟨g, mk g _ hnN ?_ (fun j hj => ?_)⟩
    · rw [hfk] at hmp
      refine .inr ⟨r, e, (ht.footM e).1, hmp.of_block (hfr3.block r hmp.lt (hmM r e))⟩
    · by_cases ej : j = k
      · rw [ej, upd_same, hgk]; rfl
      · rw [upd_other _ _ ej, hgx _ (fun e2 => ej (ky_inj hj hk e2))]; exact ht.key j hj
theorem rel_ts (a b : Nat) (ht : TS B M N w fl H n) (hN : N < 1000000) :
    Calls Yba.prog 12 #[.pointer (some ⟨M, 0, none⟩), .string (nm a), .string (nm b)] w fun e w' => e = .returned (.tuple #[]) ∧ TS B M N w' (fl ++ (H (ix a b)).getD []) (upd H (ix a b) none) (if (H (ix a b)).isSome then n - 1 else n) ∧ Kept B w w' := by
  obtain ⟨v, h, hm, ms, V, f, ht, rfl⟩ := ht
  have hi := ix_lt a b
  have hky := ky_ix a b
  generalize hkk : ix a b = k at *
  have hb := ht.bound
  have hhh := ht.hh
  have htq := tot_upd H hi none
  have hlq := le_tot H hi
  have hdel : ∀ (w' : World) (ty : TypeId), (∀ r, hm = .map (some r) → w'.heap[r]? = w.heap[r]?) → ∃ w'', (Builtin.delete_ #[94, 102] ty #[hm, .agg #[.string (nm a), .string (nm b)]]).run Yba.prog w' = .ok (.tuple #[]) w'' ∧ DelR hm f n (.agg #[.string (nm a), .string (nm b)]) w' w'' := fun w' ty hw => del_run ht.map (nm_size a) (nm_size b) w' ty hw
  have hDM : ∀ w' w'', DelR hm f n (.agg #[.string (nm a), .string (nm b)]) w' w'' → ∀ c, w'.heap[M]? = some (.cells c 96 (0, 0)) → w''.heap[M]? = some (.cells c 96 (0, 0)) := fun w' w'' hd c hc => by
    rcases hd with ⟨_, e⟩ | ⟨r, g, e, _, _, _, hg⟩
    · rw [e]; exact hc
    · exact (hg.block M (lt_of_some hc) (fun e2 => (ht.mapM r e).1 (Option.some.inj e2).symm)).trans hc
  have hmc : ∀ r, hm = .map (some r) → r ≠ M ∧ r < w.heap.size ∧ v.ownBlock ≠ some r := ht.mapM
  have hlkS : ∀ q, H k = some q → Looks w hm (nm a) (nm b) (V k) true := fun q hq => by
    have hfk : f (.agg #[.string (nm a), .string (nm b)]) = some (V k) := by rw [← hky, ht.key _ hi, hq]; rfl
    rcases ht.map with ⟨e, _, e2⟩ | ⟨r, rfl, hBr, hmp⟩
    · rw [e2] at hfk; cases hfk
    · have := looks_map hmp (nm_size a) (nm_size b)
      rw [hfk] at this
      exact this
  have free : ∀ ok, (H k).getD [] = [] → Looks w hm (nm a) (nm b) (.slice none 0 0) ok → Calls Yba.prog 12 #[.pointer (some ⟨M, 0, none⟩), .string (nm a), .string (nm b)] w fun e w' => e = .returned (.tuple #[]) ∧ TS B M N w' (ms.drop h ++ (H k).getD []) (upd H k none) (if (H k).isSome then n - 1 else n) ∧ Kept B w w' := by
    intro ok h0 hlk
    refine (release_free B M v ms h hm (nm a) (nm b) ok w ht.blk ht.own hlk (fun r hr => ⟨(hmc r hr).1, (hmc r hr).2.1⟩) _ hdel hDM).mono ?_
    rintro e w' ⟨rfl, w1, w2, hM1, hf1, hD, rfl⟩
    rw [← hky] at hD
    rw [h0] at htq
    obtain ⟨⟨f', h1⟩, h2⟩ := ht.release (w1 := w1) (w2 := w2) (v' := v) (ms' := ms) hi hM1 (own_fr ht.own hf1 (fun g hg => by obtain ⟨cu, hh⟩ := own_tag ht.own hg; exact tag_ne hh ht.blk (by decide))) ht.hh (by simp at htq; omega) (hf1.mono (fun j _ e => .inl e)) (.inl rfl) hD
    exact ⟨rfl, ⟨_, _, _, _, _, _, h1, by rw [h0, List.append_nil]⟩, h2⟩
  cases hq : H k with
  | none =>
    have hfk : f (.agg #[.string (nm a), .string (nm b)]) = none := by rw [← hky, ht.key _ hi, hq]; rfl
    have := free false (by rw [hq]; rfl) (looks_none (nm_size a) (nm_size b) hfk ht.map.plain)
    rw [hq] at this
    exact this
  | some q =>
    have howq := ht.rows k q hi hq
    have hlk := hlkS q hq
    rcases howq.2 with ⟨e, hl⟩ | ⟨gq, cq, cur, e, _⟩
    · have hq0 : q = [] := List.length_eq_zero_iff.1 hl
      rw [e] at hlk
      have := free true (by rw [hq, hq0]; rfl) hlk
      rw [hq] at this
      exact this
    · rw [e] at hlk howq
      rw [hq] at htq hlq
      simp at htq hlq
      refine (release_held B M v ms q gq cq h hm (nm a) (nm b) true w ht.blk ht.own (by omega) ht.bm howq (rowOf_one q) hlk hmc _ hdel hDM).mono ?_
      rintro e w' ⟨rfl, v', w1, w2, hM1, hown1, hf1, hb1, hD, rfl⟩
      rw [← hky] at hD
      have hl : (ms ++ q).length = ms.length + q.length := by simp
      rw [← rowOf_append, ← hl] at hown1
      obtain ⟨⟨f', h1⟩, h2⟩ := ht.release (w1 := w1) (w2 := w2) (v' := v') (ms' := ms ++ q) hi hM1 hown1 (by omega) (by omega) hf1 hb1 hD
      rw [hq] at h1
      exact ⟨rfl, ⟨_, _, _, _, _, _, h1, by rw [List.drop_append_of_le_length hhh]; rfl⟩, h2⟩
theorem next_ts_nil (ht : TS B M N w [] H n) :
    Calls Yba.prog 16 #[.pointer (some ⟨M, 0, none⟩)] w fun e w' => e = .returned (.tuple #[.agg (msgOf ⟨#[]⟩ ⟨#[]⟩).toArray, .bool false]) ∧ TS B M N w' [] H n ∧ Kept B w w' := by
  obtain ⟨v, h, hm, ms, V, f, ht, hd⟩ := ht
  have hl : h = ms.length := by have := ht.hh; have := congrArg List.length hd; simp at this; omega
  obtain ⟨a5, c5, rfl⟩ := own_slice ht.own
  have hM := ht.blk
  rw [hl] at hM
  refine (next_empty M a5 ms.length c5 hm w hM).mono ?_
  rintro e w' ⟨rfl, hM', hf'⟩
  have hf2 : Fr (fun k => k = M ∨ (Value.slice a5 ms.length c5).ownBlock = some k) w w' := hf'.mono (fun k _ e => .inl e)
  obtain ⟨h1, h2⟩ := ht.reflight hM' (own_fr ht.own hf' (fun g hg => by obtain ⟨cu, hh⟩ := own_tag ht.own hg; exact tag_ne hh ht.blk (by decide))) (Nat.le_refl _) ht.bound (Nat.le_refl _) hf2 (.inl rfl)
  exact ⟨rfl, ⟨_, _, _, _, _, _, h1, by simp⟩, h2⟩
theorem next_ts_cons (x y : ByteArray) (ht : TS B M N w ((x, y) :: fl) H n) (hN : N < 1000000) :
    Calls Yba.prog 16 #[.pointer (some ⟨M, 0, none⟩)] w fun e w' => e = .returned (.tuple #[.agg (msgOf x y).toArray, .bool true]) ∧ TS B M N w' fl H n ∧ Kept B w w' := by
  obtain ⟨v, h, hm, ms, V, f, ht, hd⟩ := ht
  have hl : h < ms.length := by
    have := congrArg List.length hd; simp at this; omega
  have he : ms[h]? = some (x, y) := by
    have : (ms.drop h)[0]? = some (x, y) := by rw [hd]; rfl
    simpa using this
  have hdr : ms.drop (h + 1) = fl := by
    rw [← List.drop_drop, hd]; rfl
  have hb := ht.bound
  rcases ht.own.2 with ⟨_, e⟩ | ⟨g, cap, cur, e, hBg, hgg, hcap, hcm, hcs, htk⟩
  · omega
  subst e
  refine (next_first M g h ms.length cap hm ms cur x y w ht.blk hl (by omega) hgg htk rfl hcap hcs he).mono ?_
  rintro e w' ⟨rfl, L', h', ms', cur', hM', hg', htk', hms', hLL, hcs', hhL, hdr', hf'⟩
  have hf2 : Fr (fun k => k = M ∨ (Value.slice (some ⟨g, 0, none⟩) ms.length cap).ownBlock = some k) w w' := hf'.mono (fun k _ e => e.imp id (fun e => by rw [e]; rfl))
  subst hms'
  have hown' : w'.ownsRow B 49 13 (.slice (some ⟨g, 0, none⟩) ms'.length cap) ms'.length (rowOf ms') := ⟨rowOf_length ms', .inr ⟨g, cap, cur', rfl, hBg, hg', by omega, hcm, hcs', htk'⟩⟩
  obtain ⟨h1, h2⟩ := ht.reflight (N' := N) hM' hown' hhL (by omega) (Nat.le_refl _) hf2 (.inl rfl)
  exact ⟨rfl, ⟨_, _, _, _, _, _, h1, hdr'.trans hdr⟩, h2⟩
end
end Go.Proofs.Ybulkcfri
