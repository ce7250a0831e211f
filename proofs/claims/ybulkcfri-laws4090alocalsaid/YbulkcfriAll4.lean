import Derived.Test.YbulkcfriLocalA
namespace Go.Proofs.Ybulkcfri
open Go.ChangeShapes Go.WideShapes Go.ChangeAt Go.RowKit Go.MuLone
def IntsAt (w : World) (ad : Option Addr) (L : Nat) (xs : Nat → Int) : Prop := L = 0 ∨ ∃ b off, ad = some ⟨b, off, none⟩ ∧ b < w.heap.size ∧ ∀ i, i < L → w.cell? ⟨b, off + i, none⟩ = some (.int .u64 (xs i)) ∧ (Lit.int .u64 (xs i)).wf = true
def BoolsAt (w : World) (ad : Option Addr) (L : Nat) (bs : Nat → Bool) : Prop := L = 0 ∨ ∃ b off, ad = some ⟨b, off, none⟩ ∧ b < w.heap.size ∧ ∀ i, i < L → w.cell? ⟨b, off + i, none⟩ = some (.bool (bs i))
theorem zero45 : (Yba.prog.info? 45).map (fun i => (i.zero, i.size, i.bytes)) = some (some (.agg #[.int .u64 0, .string ⟨#[]⟩]), 2, 24) := by kernel_rfl
def hStr : ByteArray := ⟨#[104]⟩
/-- The site and the walk, before goBack. -/
structure L4 (B S W r7 r17 r18 r19 rb : Nat) (name home : ByteArray) (fn : Value) (q : Nat → Nat) (m1 : Value) (w wr : World) : Prop where
  s : wr.heap[S]? = some (.cells (siteCells name fn q r7 r17 r18 r19) 71 (0, 0))
  k : wr.heap[W]? = some (.cells (walkCells 1 2 home m1 (.map (some rb)) (.slice none 0 0) (.slice none 0 0) (.slice none 0 0) (.slice none 0 0) (.pointer none)) 37 (0, 0))
  bel : Below B w wr
  bs : B ≤ S ∧ B ≤ W ∧ B ≤ r7 ∧ B ≤ r18 ∧ B ≤ r19 ∧ B ≤ rb
  ne : r7 ≠ r18 ∧ r7 ≠ r19 ∧ r18 ≠ r19 ∧ r7 ≠ rb ∧ r18 ≠ rb ∧ r19 ≠ rb
theorem L4.fr {B S W r7 r17 r18 r19 rb : Nat} {name home : ByteArray} {fn : Value} {q : Nat → Nat} {m1 : Value} {w wr w' : World} {X : Nat → Prop} (h : L4 B S W r7 r17 r18 r19 rb name home fn q m1 w wr) (hf : Fr X wr w') (hX : ∀ k, X k → B ≤ k ∧ k ≠ S ∧ k ≠ W) : L4 B S W r7 r17 r18 r19 rb name home fn q m1 w w' :=
  ⟨(hf.block S (lt_of_some h.s) (fun hx => (hX S hx).2.1 rfl)).trans h.s, (hf.block W (lt_of_some h.k) (fun hx => (hX W hx).2.2 rfl)).trans h.k, h.bel.trans (hf.below (by have := lt_of_some h.s; have := h.bs.1; omega) (fun k hx => (hX k hx).1)), h.bs, h.ne⟩
/-- At the normal end this frame and this world; else nothing. -/
def OnceQ (A : Act) (W : World) : Exit → Act → World → Prop
  | .normal, a, w => a = A ∧ w = W
  | _, _, _ => False
/-- A region whose every order ends in one state: what follows is walked once. -/
theorem wp_once {P : Program} {code : Code} {Q : Exit → Act → World → Prop} {a : Act} {w : World} (A : Act) (W : World) (h : code.wp P (OnceQ A W) a w) (k : Q .normal A W) : code.wp P Q a w :=
  Code.wp_mono (fun e a' w' hq => by
    cases e <;> first | exact False.elim hq | (obtain ⟨h1, h2⟩ := hq; subst h1 h2; exact k)) h
theorem neq27 (a : Addr) (w : World) : (binOp .neq 27 (.pointer (some a)) (.pointer (some a))).run Yba.prog w = .ok (.bool false) w := by
  obtain ⟨j, hj⟩ := Option.isSome_iff_exists.1 (show (Yba.prog.info? 37).isSome = true by kernel_rfl)
  have h : ∀ d : Nat, (Op.equalIn (d + 1) 27 (.pointer (some a)) (.pointer (some a))).run Yba.prog w = .ok true w := fun d => by
    simp [Op.equalIn, run_underlying Yba.underlying27, sizeOf, typeInfo, hj, run_sameAddr_same]
  simp only [binOp]
  simp [Op.equal, Op.maxDepth, h 9999]
theorem wpQuiet_len {P : Program} {ops : Array Oper} {C : World → Prop} {Q : Act → Prop} {a : Act} {o : Oper} {rest : List Oper} (hgd : o.guard = none) (s : Operand) (T : TypeId) (hop : o.op = .call { callee := .builtin .len, args := #[s], argTypes := #[T] }) (vs v' : Value) (hs : a.eval s = vs) (hr : ∀ w, C w → (Builtin.len_ #[T] o.type #[vs]).run P w = .ok v' w) (h : wpQuiet P ops C Q rest (a.put o.dst v')) : wpQuiet P ops C Q (o :: rest) a := by
  refine BigFrame.wpQuiet_want (by simp [Region.wanted, hgd]) (fun K hK => ⟨v', fun w hw => ?_, hK _ h⟩)
  unfold Oper.quietAt
  simp [execOp, hop, resolve, invoke, builtin, hs, hr w hw, Result.andThen, Oper.quietUpon]
theorem beq_sym (x y : Int) : (x == y) = (y == x) := by
  by_cases e : x = y
  · rw [e]
  · have e' : ¬ y = x := fun h => e h.symm
    rw [beq_eq_false_iff_ne.2 e, beq_eq_false_iff_ne.2 e']
/-- Three maps that hold nothing yet. -/
structure E4 (r7 r19 rb : Nat) (wr : World) : Prop where
  a : MapIs Yba.prog 22 wr r7 (fun _ => none) 0
  b : MapIs Yba.prog 75 wr r19 (fun _ => none) 0
  c : MapIs Yba.prog 22 wr rb (fun _ => none) 0
theorem E4.fr {r7 r19 rb : Nat} {wr w' : World} {X : Nat → Prop} (h : E4 r7 r19 rb wr) (hf : Fr X wr w') (h1 : ¬ X r7) (h2 : ¬ X r19) (h3 : ¬ X rb) : E4 r7 r19 rb w' :=
  ⟨h.a.of_block (hf.block _ h.a.lt h1), h.b.of_block (hf.block _ h.b.lt h2), h.c.of_block (hf.block _ h.c.lt h3)⟩
theorem map_cells {K : TypeId} {w : World} {r k n : Nat} {f : Value → Option Value} {c : Array Value} {t : TypeId} (hq : MapIs Yba.prog K w r f n) (hk : w.heap[k]? = some (.cells c t (0, 0))) : k ≠ r := fun e => by
  obtain ⟨es, ck, h3, _⟩ := hq
  rw [← e, hk] at h3; cases h3
def cbOf (pre had : Bool) (prior : Nat) : Option Value := if pre then (if had then some (.int .i64 prior) else none) else if had then some (.int .i64 (prior + 1)) else some (.int .i64 1)
def nbOf (pre had : Bool) : Nat := if pre then (if had then 1 else 0) else 1
/-- What stands ahead of 'goBack'. -/
structure Bf (B S W r7 r17 r18 r19 rb P Q : Nat) (a0 a1 : ByteArray) (fn : Value) (qq : Nat → Nat) (m1 : Value) (up p : Int) (xs : List Int) (mk : Int → Bool) (pre had : Bool) (prior : Nat) (w w7 : World) : Prop where
  l : L4 B S W r7 r17 r18 r19 rb a0 a1 fn qq m1 w w7
  m19 : ∃ g, MapIs Yba.prog 75 w7 r19 g (if pre then 1 else 0) ∧ ((pre = true ∧ ∃ v, g (pk up p) = some v ∧ w7.ownsRow B 27 1 v 1 (reps W 1)) ∨ (pre = false ∧ g (pk up p) = none))
  mb : ∃ g, MapIs Yba.prog 22 w7 rb g (if had then 1 else 0) ∧ g (.int .u64 up) = if had then some (.int .i64 prior) else none
  m7 : ∃ g n, MapIs Yba.prog 22 w7 r7 g n ∧ w7.ownsRow B 45 2 ((g (.int .u64 up)).getD (.slice none 0 0)) xs.length (wsRow hStr xs)
  m18 : ∃ g n, MapIs Yba.prog 75 w7 r18 g n ∧ ∀ x ∈ xs, (Lit.int .u64 x).wf = true ∧ ∃ m, w7.ownsRow B 27 1 ((g (pk x up)).getD (.slice none 0 0)) m (reps W m) ∧ mk x = decide (0 < m)
  pb : w7.heap[P]? = some (.cells #[.int .u64 up, .int .u64 p] 75 (0, 0))
  qb : w7.heap[Q]? = some (.cells #[.int .u64 up, .int .u64 p] 39 (0, 0))
/-- What stands behind 'goBack'. -/
structure Af (B S W r7 r17 r18 r19 rb P Q : Nat) (a0 a1 : ByteArray) (fn : Value) (qq : Nat → Nat) (m1 : Value) (up p : Int) (xs : List Int) (mk : Int → Bool) (pre had : Bool) (prior : Nat) (w : World) (rv cw : Nat) (gv fv : Value) (w7 : World) : Prop where
  s : w7.heap[S]? = some (.cells (siteCells a0 fn qq r7 r17 r18 r19) 71 (0, 0))
  k : w7.heap[W]? = some (.cells (walkCells 1 2 a1 m1 (.map (some rb)) (.slice none 0 0) gv (.slice none 0 0) fv (.pointer none)) 37 (0, 0))
  bel : Below B w w7
  m19 : ∃ g, MapIs Yba.prog 75 w7 r19 g 1 ∧ g (pk up p) = some (.slice (some ⟨rv, 0, none⟩) 1 cw)
  rc : w7.cell? ⟨rv, 0, none⟩ = some (.pointer (some ⟨W, 0, none⟩))
  mb : ∃ g, MapIs Yba.prog 22 w7 rb g (nbOf pre had) ∧ g (.int .u64 up) = cbOf pre had prior
  pb : w7.heap[P]? = some (.cells #[.int .u64 up, .int .u64 p] 75 (0, 0))
  qb : w7.heap[Q]? = some (.cells #[.int .u64 up, .int .u64 p] 39 (0, 0))
  fnd : ((a1.toList == a0.toList) = true ∧ fv = .slice none 0 0) ∨ ((a1.toList == a0.toList) = false ∧ ∃ gf cf, fv = .slice (some ⟨gf, 0, none⟩) 1 cf ∧ w7.cell? ⟨gf, 0, none⟩ = some (.int .u64 up) ∧ w7.cell? ⟨gf, 1, none⟩ = some (.int .u64 p))
  gvs : ((pre || had) = true ∧ gv = .slice none 0 0) ∨ ((pre || had) = false ∧ w7.ownsRow B 79 3 gv (xs.filter mk).length (stepRow hStr up (xs.filter mk)))
section
variable {B S W r7 r17 r18 r19 rb P Q : Nat} {a0 a1 : ByteArray} {fn : Value} {qq : Nat → Nat} {m1 : Value} {up p : Int} {xs : List Int} {mk : Int → Bool} {pre had : Bool} {prior : Nat} {w w7 w8 w' : World} {rv cw : Nat} {gv fv : Value}
theorem Af.same (h : Af B S W r7 r17 r18 r19 rb P Q a0 a1 fn qq m1 up p xs mk pre had prior w rv cw gv fv w7) (n : Nat) : Af B S W r7 r17 r18 r19 rb P Q a0 a1 fn qq m1 up p xs mk pre had prior w rv cw gv fv (w7.drewN n) := by
  obtain ⟨s, k, bel, ⟨g, m1, m2⟩, rc, ⟨g', m3, m4⟩, hp, hq, fnd, gvs⟩ := h
  refine ⟨s, k, bel.trans ⟨rfl, rfl, rfl, Nat.le_refl _, fun _ _ => rfl⟩, ⟨g, m1.of_block rfl, m2⟩, rc, ⟨g', m3.of_block rfl, m4⟩, hp, hq, fnd, ?_⟩
  rcases gvs with h1 | ⟨h1, h2⟩
  · exact .inl h1
  · exact .inr ⟨h1, own_fr h2 ((Fr.refl (fun _ => False) w7).drewN n) (fun _ _ => id)⟩
/-- The frames behind the call, whatever it did to the walk and the two maps. -/
theorem Bf.after (h : Bf B S W r7 r17 r18 r19 rb P Q a0 a1 fn qq m1 up p xs mk pre had prior w w7) (hfr8 : Fr (· = W) w7 w8) (hfr : Fr (fun k => k = r19 ∨ k = rb ∨ k = W) w8 w') (hcase : ((a0.toList == a1.toList) = true ∧ fv = .slice none 0 0) ∨ ((a0.toList == a1.toList) = false ∧ w8.ownsRow w7.heap.size 39 2 fv 1 [.int .u64 up, .int .u64 p]))
    (hk : w'.heap[W]? = some (.cells (walkCells 1 2 a1 m1 (.map (some rb)) (.slice none 0 0) gv (.slice none 0 0) fv (.pointer none)) 37 (0, 0))) (hm19 : ∃ g v, MapIs Yba.prog 75 w' r19 g 1 ∧ g (pk up p) = some v ∧ ∃ B', w'.ownsRow B' 27 1 v 1 (reps W 1)) (hmb : ∃ g, MapIs Yba.prog 22 w' rb g (nbOf pre had) ∧ g (.int .u64 up) = cbOf pre had prior) (hgv : ((pre || had) = true ∧ gv = .slice none 0 0) ∨ ((pre || had) = false ∧ w'.ownsRow B 79 3 gv (xs.filter mk).length (stepRow hStr up (xs.filter mk)))) :
    ∃ rv cw, Af B S W r7 r17 r18 r19 rb P Q a0 a1 fn qq m1 up p xs mk pre had prior w rv cw gv fv w' := by
  obtain ⟨g0, hm0, _⟩ := h.m19
  obtain ⟨g1, hb0, _⟩ := h.mb
  have fr : Fr (fun k => k = r19 ∨ k = rb ∨ k = W) w7 w' := (hfr8.mono (fun k _ e => .inr (.inr e))).trans hfr
  have ne : ∀ {k : Nat} {c : Array Value} {t : TypeId}, w7.heap[k]? = some (.cells c t (0, 0)) → t ≠ 37 → ¬ (k = r19 ∨ k = rb ∨ k = W) := fun hk ht hx => by
    rcases hx with e | e | e
    · exact map_cells hm0 hk e
    · exact map_cells hb0 hk e
    · exact tag_ne hk h.l.k ht e
  obtain ⟨g, v, hm, hg, B', hov⟩ := hm19
  rcases hov.2 with ⟨_, h0⟩ | ⟨rv, cw, cur, hve, _⟩
  · cases h0
  subst hve
  refine ⟨rv, cw, (fr.block S (lt_of_some h.l.s) (ne h.l.s (by decide))).trans h.l.s, hk, h.l.bel.trans (fr.below (by have := lt_of_some h.l.s; have := h.l.bs.1; omega) (fun k hx => by have := h.l.bs; rcases hx with e | e | e <;> omega)), ⟨g, hm, hg⟩, hov.cells' 0 _ rfl, hmb, (fr.block P (lt_of_some h.pb) (ne h.pb (by decide))).trans h.pb, (fr.block Q (lt_of_some h.qb) (ne h.qb (by decide))).trans h.qb, ?_, hgv⟩
  rcases hcase with ⟨h1, h2⟩ | ⟨h1, h2⟩
  · exact .inl ⟨by simp at h1 ⊢; exact h1.symm, h2⟩
  · refine .inr ⟨?_, ?_⟩
    · cases hq : (a1.toList == a0.toList) with
      | false => rfl
      | true => simp at hq h1; exact absurd hq.symm h1
    · have hm8 : MapIs Yba.prog 75 w8 r19 g0 _ := hm0.of_block (hfr8.block r19 hm0.lt (Ne.symm (map_cells hm0 h.l.k)))
      have hb8 : MapIs Yba.prog 22 w8 rb g1 _ := hb0.of_block (hfr8.block rb hb0.lt (Ne.symm (map_cells hb0 h.l.k)))
      have h3 := own_fr h2 hfr (fun k hk2 hx => by
        obtain ⟨cu, h4⟩ := own_tag h2 hk2
        rcases hx with e | e | e
        · exact map_cells hm8 h4 e
        · exact map_cells hb8 h4 e
        · have := own_B h2 hk2; have := lt_of_some h.l.k; omega)
      rcases h3.2 with ⟨_, h0⟩ | ⟨gf, cf, curf, hfe, _⟩
      · cases h0
      subst hfe
      exact ⟨gf, cf, rfl, h3.cells' 0 _ rfl, h3.cells' 1 _ rfl⟩
set_option maxHeartbeats 1000000 in
theorem Bf.go (hup : (Lit.int .u64 up).wf = true) (hp : (Lit.int .u64 p).wf = true) (hpr : prior < 256) (hxl : xs.length ≤ 1024) (h : Bf B S W r7 r17 r18 r19 rb P Q a0 a1 fn qq m1 up p xs mk pre had prior w w7) :
    Calls Yba.prog 8 #[.pointer (some ⟨S, 0, none⟩), .pointer (some ⟨W, 0, none⟩), .agg #[.int .u64 up, .string a0], .int .u64 p] w7 fun e w' => e = .returned (.tuple #[]) ∧ ∃ rv cw gv fv, Af B S W r7 r17 r18 r19 rb P Q a0 a1 fn qq m1 up p xs mk pre had prior w rv cw gv fv w' := by
  have hSW : S ≠ W := tag_ne h.l.s h.l.k (by decide)
  obtain ⟨g0, hm0, hg0⟩ := h.m19
  obtain ⟨g1, hb0, hg1⟩ := h.mb
  obtain ⟨g7, n7, hm7, hov7⟩ := h.m7
  obtain ⟨g18, n18, hm18, hmk⟩ := h.m18
  have key : ∀ w8 fv, Fr (· = W) w7 w8 → w8.heap[W]? = some (.cells (walkCells 1 2 a1 m1 (.map (some rb)) (.slice none 0 0) (.slice none 0 0) (.slice none 0 0) fv (.pointer none)) 37 (0, 0)) →
      Calls Yba.prog 20 #[.pointer (some ⟨S, 0, none⟩), .pointer (some ⟨W, 0, none⟩), .int .u64 up, .int .u64 p] w8 fun e w' => e = .returned (.tuple #[]) ∧ ∃ gv, Fr (fun k => k = r19 ∨ k = rb ∨ k = W) w8 w' ∧ w'.heap[W]? = some (.cells (walkCells 1 2 a1 m1 (.map (some rb)) (.slice none 0 0) gv (.slice none 0 0) fv (.pointer none)) 37 (0, 0)) ∧ (∃ g v, MapIs Yba.prog 75 w' r19 g 1 ∧ g (pk up p) = some v ∧ ∃ B', w'.ownsRow B' 27 1 v 1 (reps W 1)) ∧ (∃ g, MapIs Yba.prog 22 w' rb g (nbOf pre had) ∧ g (.int .u64 up) = cbOf pre had prior) ∧ (((pre || had) = true ∧ gv = .slice none 0 0) ∨ ((pre || had) = false ∧ w'.ownsRow B 79 3 gv (xs.filter mk).length (stepRow hStr up (xs.filter mk)))) := by
    intro w8 fv hfr8 hW8
    have hS8 := (hfr8.block S (lt_of_some h.l.s) hSW).trans h.l.s
    have hm8 : MapIs Yba.prog 75 w8 r19 g0 _ := hm0.of_block (hfr8.block r19 hm0.lt (Ne.symm (map_cells hm0 h.l.k)))
    have hb8 : MapIs Yba.prog 22 w8 rb g1 _ := hb0.of_block (hfr8.block rb hb0.lt (Ne.symm (map_cells hb0 h.l.k)))
    have own8 : ∀ {t : TypeId} {sz n : Nat} {v : Value} {l : List Value}, t ≠ 37 → w7.ownsRow B t sz v n l → w8.ownsRow B t sz v n l := fun ht ho => own_fr ho hfr8 (fun k hk e => by obtain ⟨cu, h3⟩ := own_tag ho hk; exact tag_ne h3 h.l.k ht e)
    cases pre with
    | true =>
      obtain ⟨v, hv, hov⟩ : ∃ v, g0 (pk up p) = some v ∧ w7.ownsRow B 27 1 v 1 (reps W 1) := by
        rcases hg0 with ⟨_, h1⟩ | ⟨h1, _⟩
        · exact h1
        · cases h1
      refine (arrive_pre S W r19 1 1 B g0 v a0 fn qq r7 r17 r18 up p hup hp w8 hS8 hm8 hv (own8 (by decide) hov) (by omega)).mono ?_
      rintro e w' ⟨rfl, hb⟩
      have fr9 : Fr (fun k => k = r19 ∨ k = rb ∨ k = W) w8 w' := Fr.of_below hb _
      have fr90 : Fr (fun _ => False) w8 w' := Fr.of_below hb _
      refine ⟨rfl, _, fr9, (hb.block W (lt_of_some hW8)).trans hW8, ⟨g0, v, hm8.of_block (hb.block r19 hm8.lt), hv, B, own_fr (own8 (by decide) hov) fr90 (fun _ _ => id)⟩, ⟨g1, ?_, ?_⟩, .inl ⟨rfl, rfl⟩⟩
      · have h3 := hb8.of_block (hb.block rb hb8.lt)
        cases had <;> exact h3
      · cases had <;> exact hg1
    | false =>
      rcases hg0 with ⟨h1, _⟩ | ⟨_, hv⟩
      · cases h1
      cases had with
      | true =>
        refine (arrive_again S W r19 rb 0 1 g0 g1 prior a0 a1 fn qq r7 r17 r18 1 2 m1 (.slice none 0 0) (.slice none 0 0) (.slice none 0 0) fv (.pointer none) up p hup hp w8 hS8 hW8 hm8 hv hb8 hg1 (by omega) h.l.ne.2.2.2.2.2).mono ?_
        rintro e w' ⟨rfl, v, g, gg, q1, q2, q3, q4, q5, q6, q7⟩
        have hW9 := (q7.block W (lt_of_some hW8) (fun hx => by
          rcases hx with e | e
          · exact map_cells hm8 hW8 e
          · exact map_cells hb8 hW8 e)).trans hW8
        exact ⟨rfl, _, q7.mono (fun k _ hx => hx.elim .inl (fun e => .inr (.inl e))), hW9, ⟨g, v, q1, q2, _, q4⟩, ⟨gg, q5, q6⟩, .inl ⟨rfl, rfl⟩⟩
      | false =>
        have hn := h.l.ne
        refine (arrive_first S W r19 rb 0 0 r18 n18 r7 n7 B g0 g1 g18 g7 _ xs mk hStr a0 a1 fn qq r17 1 2 m1 (.slice none 0 0) (.slice none 0 0) fv (.pointer none) up p hup hp w8 hS8 hW8 hm8 hv hb8 hg1 hn.2.2.2.2.2 (hm7.of_block (hfr8.block r7 hm7.lt (Ne.symm (map_cells hm7 h.l.k)))) rfl (own8 (by decide) hov7) hxl (hm18.of_block (hfr8.block r18 hm18.lt (Ne.symm (map_cells hm18 h.l.k)))) (fun x hx => by obtain ⟨h1, m, h2, h3⟩ := hmk x hx; exact ⟨h1, m, own8 (by decide) h2, h3⟩) ⟨hn.2.1, hn.2.2.2.1⟩ ⟨hn.2.2.1, hn.2.2.2.2.1⟩).mono ?_
        rintro e w' ⟨rfl, v, g, gg, gv, q1, q2, q3, q4, q5, q6, q7, q8, q9⟩
        exact ⟨rfl, gv, q9, q7, ⟨g, v, q1, q2, _, q4⟩, ⟨gg, q5, q6⟩, .inr ⟨rfl, own_base q8 (by have := lt_of_some h.l.s; have := h.l.bs.1; have := hfr8.size; omega)⟩⟩
  refine (goBack_local S W a0 a1 up p 1 2 m1 (.map (some rb)) (.slice none 0 0) (.slice none 0 0) (fun w8 fv w' => ∃ gv, Fr (fun k => k = r19 ∨ k = rb ∨ k = W) w8 w' ∧ w'.heap[W]? = some (.cells (walkCells 1 2 a1 m1 (.map (some rb)) (.slice none 0 0) gv (.slice none 0 0) fv (.pointer none)) 37 (0, 0)) ∧ (∃ g v, MapIs Yba.prog 75 w' r19 g 1 ∧ g (pk up p) = some v ∧ ∃ B', w'.ownsRow B' 27 1 v 1 (reps W 1)) ∧ (∃ g, MapIs Yba.prog 22 w' rb g (nbOf pre had) ∧ g (.int .u64 up) = cbOf pre had prior) ∧ (((pre || had) = true ∧ gv = .slice none 0 0) ∨ ((pre || had) = false ∧ w'.ownsRow B 79 3 gv (xs.filter mk).length (stepRow hStr up (xs.filter mk))))) w7 (cell_of h.l.s rfl) h.l.k hSW (fun w8 fv h1 h2 _ => key w8 fv h1 h2)).mono ?_
  rintro e w' ⟨rfl, w8, fv, hfr8, hW8, hcase, gv, h1, h2, h3, h4, h5⟩
  obtain ⟨rv, cw, ha⟩ := h.after hfr8 h1 hcase h2 h3 h4 h5
  exact ⟨rfl, rv, cw, gv, fv, ha⟩
theorem Af.lk19 (hup : (Lit.int .u64 up).wf = true) (hp : (Lit.int .u64 p).wf = true) (h : Af B S W r7 r17 r18 r19 rb P Q a0 a1 fn qq m1 up p xs mk pre had prior w rv cw gv fv w7) : ∀ k, (Instr.lookup 64 (.map (some r19)) (.agg #[.int .u64 up, .int .u64 p]) false).run Yba.prog (w7.drewN k) = .ok (.slice (some ⟨rv, 0, none⟩) 1 cw) (w7.drewN k) := fun k => by
  obtain ⟨l, hkey⟩ := key75 hup hp
  obtain ⟨g, hm, hg⟩ := h.m19
  have h1 := (hm.of_block (w' := w7.drewN k) rfl).lookup law75 Yba.underlying64 (Yba.zeroValue76 _) hkey false
  have h2 : g (.agg #[.int .u64 up, .int .u64 p]) = some (.slice (some ⟨rv, 0, none⟩) 1 cw) := hg
  rw [h2] at h1
  exact h1
theorem Af.lkb (hup : (Lit.int .u64 up).wf = true) (h : Af B S W r7 r17 r18 r19 rb P Q a0 a1 fn qq m1 up p xs mk pre had prior w rv cw gv fv w7) {v : Value} {b : Bool} (hv : (cbOf pre had prior).getD (.int .i64 0) = v) (hb : (cbOf pre had prior).isSome = b) : ∀ k, (Instr.lookup 30 (.map (some rb)) (.int .u64 up) true).run Yba.prog (w7.drewN k) = .ok (.tuple #[v, .bool b]) (w7.drewN k) := fun k => by
  obtain ⟨l, hkey⟩ := key22 hup
  obtain ⟨g, hm, hg⟩ := h.mb
  have h1 := (hm.of_block (w' := w7.drewN k) rfl).lookup law22 Yba.underlying30 (Yba.zeroValue3 _) hkey true
  rw [hg] at h1
  rw [← hv, ← hb]
  exact h1
theorem Af.len19 (h : Af B S W r7 r17 r18 r19 rb P Q a0 a1 fn qq m1 up p xs mk pre had prior w rv cw gv fv w7) : ∀ k ty, (Builtin.len_ #[64] ty #[.map (some r19)]).run Yba.prog (w7.drewN k) = .ok (.int .i64 1) (w7.drewN k) := fun k ty => by
  obtain ⟨g, hm, hg⟩ := h.m19
  exact (hm.of_block (w' := w7.drewN k) rfl).len Yba.underlying64 ty
theorem Af.lenb (h : Af B S W r7 r17 r18 r19 rb P Q a0 a1 fn qq m1 up p xs mk pre had prior w rv cw gv fv w7) {n : Nat} (hn : nbOf pre had = n) : ∀ k ty, (Builtin.len_ #[30] ty #[.map (some rb)]).run Yba.prog (w7.drewN k) = .ok (.int .i64 n) (w7.drewN k) := fun k ty => by
  obtain ⟨g, hm, hg⟩ := h.mb
  rw [← hn]
  exact (hm.of_block (w' := w7.drewN k) rfl).len Yba.underlying30 ty
end
theorem stepRow_length (h : ByteArray) (u : Int) (xs : List Int) : (stepRow h u xs).length = xs.length * 3 := by
  induction xs with
  | nil => rfl
  | cons p r ih => simp only [stepRow, List.flatMap_cons, List.length_append, List.length_cons] at ih ⊢; rw [ih]; simp; omega
theorem stepRow_at {h : ByteArray} {u : Int} {xs : List Int} {i : Nat} {x : Int} (e : xs[i]? = some x) (j : Nat) (v : Value) (hj : ([.int .u64 x, .string h, .int .u64 u] : List Value)[j]? = some v) : (stepRow h u xs)[i * 3 + j]? = some v := by
  obtain ⟨hl, he⟩ := List.getElem?_eq_some_iff.1 e
  have hj2 : j < 3 := by have := (List.getElem?_eq_some_iff.1 hj).1; simpa using this
  have e2 : xs = xs.take i ++ (x :: xs.drop (i + 1)) := by rw [← he]; simp
  have e3 : stepRow h u xs = stepRow h u (xs.take i) ++ ([.int .u64 x, .string h, .int .u64 u] ++ stepRow h u (xs.drop (i + 1))) := by
    calc stepRow h u xs = stepRow h u (xs.take i ++ (x :: xs.drop (i + 1))) := by rw [← e2]
      _ = _ := by simp [stepRow]
  rw [e3, List.getElem?_append_right (by rw [stepRow_length, List.length_take, Nat.min_eq_left (by omega)]; omega), stepRow_length, List.length_take, Nat.min_eq_left (by omega), List.getElem?_append_left (by simp; omega), show i * 3 + j - i * 3 = j by omega]
  exact hj
/-- How many of the first j waiters are marked. -/
def cnt (xs : Nat → Int) (mk : Int → Bool) (j : Nat) : Nat := (((List.range j).map xs).filter mk).length
theorem cnt_succ (xs : Nat → Int) (mk : Int → Bool) (j : Nat) : cnt xs mk (j + 1) = cnt xs mk j + (if mk (xs j) then 1 else 0) := by
  unfold cnt
  rw [List.range_succ, List.map_append, List.filter_append, List.length_append]
  congr 1
  cases h : mk (xs j) <;> simp [h]
theorem cnt_le (xs : Nat → Int) (mk : Int → Bool) (j : Nat) : cnt xs mk j ≤ j := by
  unfold cnt
  refine Nat.le_trans (List.length_filter_le _ _) (by simp)
theorem cnt_at (xs : Nat → Int) (mk : Int → Bool) (i j : Nat) (hj : j < i) (hm : mk (xs j) = true) : (((List.range i).map xs).filter mk)[cnt xs mk j]? = some (xs j) := by
  induction i with
  | zero => omega
  | succ n ih =>
    rw [List.range_succ, List.map_append, List.filter_append]
    by_cases h : j < n
    · have h1 := ih h
      have h2 := (List.getElem?_eq_some_iff.1 h1).1
      rw [List.getElem?_append_left h2]; exact h1
    · have e : j = n := by omega
      subst e
      unfold cnt
      rw [List.getElem?_append_right (Nat.le_refl _)]
      simp [hm]
theorem own_step {w : World} {base n : Nat} {v : Value} {h : ByteArray} {u : Int} {xs : List Int} (ho : w.ownsRow base 79 3 v n (stepRow h u xs)) {k : Nat} {x : Int} (hn : n = xs.length) (he : xs[k]? = some x) : ∃ g c, v = .slice (some ⟨g, 0, none⟩) n c ∧ g < w.heap.size ∧ w.cell? ⟨g, k * 3, none⟩ = some (.int .u64 x) ∧ w.cell? ⟨g, k * 3 + 1, none⟩ = some (.string h) ∧ w.cell? ⟨g, k * 3 + 2, none⟩ = some (.int .u64 u) := by
  have hk := (List.getElem?_eq_some_iff.1 he).1
  rcases ho.2 with ⟨rfl, h0⟩ | ⟨g, cap, cur, rfl, hb, hh, _⟩
  · omega
  · have ha : ∀ n, (⟨g, 0, none⟩ : Addr).add n = ⟨g, n, none⟩ := fun n => by
      unfold Addr.add
      split <;> simp_all
    have hc : ∀ j v, ([.int .u64 x, .string h, .int .u64 u] : List Value)[j]? = some v → w.cell? ⟨g, k * 3 + j, none⟩ = some v := fun j v hj => by
      rw [← ha]; exact ho.cells' (k * 3 + j) v (stepRow_at (h := h) (u := u) he j v hj)
    exact ⟨g, cap, rfl, lt_of_some hh, hc 0 _ rfl, hc 1 _ rfl, hc 2 _ rfl⟩
theorem mkd_of {xs : Nat → Int} {bs : Nat → Bool} {Lm i t : Nat} {x : Int} (ht : t < i) (hm : t < Lm) (hb : bs t = true) (hx : xs t = x) : mkd xs bs Lm i x = true := by
  unfold mkd
  rw [List.any_eq_true]
  exact ⟨t, List.mem_range.2 ht, by simp [hm, hb, hx]⟩
theorem mkd_stop {xs : Nat → Int} {bs : Nat → Bool} {Lm i t : Nat} {x : Int} (hm : Lm ≤ t) (ht : t ≤ i) (h : mkd xs bs Lm t x = false) : mkd xs bs Lm i x = false := by
  induction i with
  | zero => have : t = 0 := by omega
            rw [← this]; exact h
  | succ n ih =>
    by_cases e : t = n + 1
    · rw [← e]; exact h
    · rw [mkd_succ, ih (by omega)]
      have : ¬ n < Lm := by omega
      simp [this]
end Go.Proofs.Ybulkcfri
