import Derived.Test.YbulkcfriGoLocal
namespace Go.Proofs.Ybulkcfri
open Go.ChangeShapes Go.WideShapes Go.ChangeAt Go.RowKit Go.MuLone
/-- Which waiters' pairs have been walked ahead along, behind j of the marks. -/
def mkd (xs : Nat → Int) (bs : Nat → Bool) (Lm j : Nat) (x : Int) : Bool := (List.range j).any fun i => decide (i < Lm) && bs i && (xs i == x)
theorem mkd_zero (xs : Nat → Int) (bs : Nat → Bool) (Lm : Nat) (x : Int) : mkd xs bs Lm 0 x = false := rfl
theorem mkd_succ (xs : Nat → Int) (bs : Nat → Bool) (Lm j : Nat) (x : Int) : mkd xs bs Lm (j + 1) x = (mkd xs bs Lm j x || (decide (j < Lm) && bs j && (xs j == x))) := by
  unfold mkd; rw [List.range_succ, List.any_append]; simp
/-- The walks ahead: for each pair (x, up) the walk at W, some times. -/
structure A18 (O W r18 : Nat) (up : Int) (mk : Int → Bool) (i : Nat) (f : Value → Option Value) (n : Nat) (wr : World) : Prop where
  map : MapIs Yba.prog 75 wr r18 f n
  row : ∀ x, (Lit.int .u64 x).wf = true → ∃ m, wr.ownsRow O 27 1 ((f (pk x up)).getD (.slice none 0 0)) m (reps W m) ∧ mk x = decide (0 < m) ∧ m ≤ i
  ap : ∀ x y v v' g, (Lit.int .u64 x).wf = true → (Lit.int .u64 y).wf = true → x ≠ y → f (pk x up) = some v → f (pk y up) = some v' → v.ownBlock = some g → v'.ownBlock ≠ some g
theorem A18.fr {O W r18 : Nat} {up : Int} {mk : Int → Bool} {i : Nat} {f : Value → Option Value} {n : Nat} {wr w' : World} {X : Nat → Prop} (h : A18 O W r18 up mk i f n wr) (hf : Fr X wr w') (hr : ¬ X r18) (hx : ∀ k c, X k → wr.heap[k]? = some (.cells c 27 (0, 0)) → False) : A18 O W r18 up mk i f n w' :=
  ⟨h.map.of_block (hf.block r18 h.map.lt hr), fun x hw => by
    obtain ⟨m, h1, h2, h3⟩ := h.row x hw
    exact ⟨m, own_fr h1 hf (fun k hk hX => by obtain ⟨cu, h4⟩ := own_tag h1 hk; exact hx k cu hX h4), h2, h3⟩, h.ap⟩
theorem A18.mono {O W r18 : Nat} {up : Int} {mk : Int → Bool} {i j : Nat} {f : Value → Option Value} {n : Nat} {wr : World} (h : A18 O W r18 up mk i f n wr) (hij : i ≤ j) : A18 O W r18 up mk j f n wr :=
  ⟨h.map, fun x hw => by obtain ⟨m, h1, h2, h3⟩ := h.row x hw; exact ⟨m, h1, h2, by omega⟩, h.ap⟩
theorem pk_inj {x y u : Int} (h : pk x u = pk y u) : x = y := by unfold pk at h; simpa using h
theorem reps_succ (W m : Nat) : reps W (m + 1) = reps W m ++ [.pointer (some ⟨W, 0, none⟩)] := by unfold reps; rw [List.replicate_succ']
/-- One mark more, at x: the entry was looked up, its row lengthened, and stored. -/
theorem A18.add {O W r18 : Nat} {up : Int} {mk : Int → Bool} {i : Nat} {f f' : Value → Option Value} {n n' : Nat} {wr w5 w6 : World} {x : Int} {v' : Value} {m : Nat} (h : A18 O W r18 up mk i f n wr) (hxw : (Lit.int .u64 x).wf = true) (hf : Fr (fun k => k = r18 ∨ ((f (pk x up)).getD (.slice none 0 0)).ownBlock = some k) wr w5)
    (ho : w5.ownsRow O 27 1 v' (m + 1) (reps W m ++ [.pointer (some ⟨W, 0, none⟩)])) (hm : m ≤ i) (hat : v'.ownBlock = ((f (pk x up)).getD (.slice none 0 0)).ownBlock ∨ ∃ g, v'.ownBlock = some g ∧ wr.heap.size ≤ g) (hr5 : ∃ es ck, w5.heap[r18]? = some (.map es ck))
    (hmap : MapIs Yba.prog 75 w6 r18 f' n') (hk : f' (pk x up) = some v') (hx : ∀ y, y ≠ pk x up → f' y = f y) (hg : w5.grownBy w6 (some r18)) : A18 O W r18 up (fun y => mk y || y == x) (i + 1) f' n' w6 := by
  have hO5 : ∀ {v : Value} {k : Nat} {l : List Value}, w5.ownsRow O 27 1 v k l → w6.ownsRow O 27 1 v k l := fun ho => ho.kept hg (.inr (fun e => by
    obtain ⟨cu, h4⟩ := own_tag ho e
    obtain ⟨es, ck, h5⟩ := hr5
    rw [h5] at h4; cases h4))
  have hne : ∀ {y : Int}, y ≠ x → pk y up ≠ pk x up := fun hy e => hy (pk_inj e)
  have old : ∀ y, (Lit.int .u64 y).wf = true → y ≠ x → ∀ g, ((f (pk y up)).getD (.slice none 0 0)).ownBlock = some g → ((f (pk x up)).getD (.slice none 0 0)).ownBlock ≠ some g := fun y hyw hy g hg2 hg3 => by
    cases h1 : f (pk y up) with
    | none => rw [h1] at hg2; cases hg2
    | some v1 =>
      cases h2 : f (pk x up) with
      | none => rw [h2] at hg3; cases hg3
      | some v2 => rw [h1] at hg2; rw [h2] at hg3; exact h.ap y x v1 v2 g hyw hxw hy h1 h2 hg2 hg3
  have fresh : ∀ y v1, y ≠ x → f (pk y up) = some v1 → (Lit.int .u64 y).wf = true → ∀ g, v1.ownBlock = some g → v'.ownBlock ≠ some g := fun y v1 hy h1 hyw g hg2 hg3 => by
    obtain ⟨m1, q1, _, _⟩ := h.row y hyw
    rw [h1] at q1
    rcases hat with e | ⟨g', e, hl⟩
    · exact old y hyw hy g (by rw [h1]; exact hg2) (by rw [← e]; exact hg3)
    · rw [e] at hg3; have := Option.some.inj hg3; have := own_lt q1 hg2; omega
  refine ⟨hmap, fun y hyw => ?_, fun y z v1 v2 g hyw hzw hyz h1 h2 hg1 => ?_⟩
  · by_cases e : y = x
    · subst e
      refine ⟨m + 1, ?_, by simp, by omega⟩
      rw [hk, reps_succ]
      exact hO5 ho
    · obtain ⟨m1, q1, q2, q3⟩ := h.row y hyw
      refine ⟨m1, ?_, by simp [q2, e], by omega⟩
      rw [hx _ (hne e)]
      refine hO5 (own_fr q1 hf (fun g hg2 hX => ?_))
      rcases hX with e2 | e2
      · obtain ⟨cu, h4⟩ := own_tag q1 hg2
        obtain ⟨es, ck, h5, _⟩ := h.map
        rw [e2, h5] at h4; cases h4
      · exact old y hyw e g hg2 e2
  · by_cases ey : y = x
    · subst ey
      rw [hk] at h1
      have e1 := Option.some.inj h1
      subst e1
      have ez : z ≠ y := Ne.symm hyz
      rw [hx _ (hne ez)] at h2
      intro h3
      exact fresh z v2 ez h2 hzw g h3 hg1
    · rw [hx _ (hne ey)] at h1
      by_cases ez : z = x
      · subst ez
        rw [hk] at h2
        have e1 := Option.some.inj h2
        subst e1
        exact fresh y v1 ey h1 hyw g hg1
      · rw [hx _ (hne ez)] at h2
        exact h.ap y z v1 v2 g hyw hzw hyz h1 h2 hg1
end Go.Proofs.Ybulkcfri
