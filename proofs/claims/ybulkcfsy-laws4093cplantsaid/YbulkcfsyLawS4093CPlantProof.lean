/-
  A PROOF OF 'Rows.LawS4093CPlantSaid'. The frame: the guide's template (proof-skeleton.mjs), its end turned from 'Grown' to 'Below'.
-/
import Derived.Test.YbulkcfsyZeros
import Derived.Below
import Derived.Laws.OwnMore
import Derived.ChangeOld
namespace Go.Proofs.Ybulkcfsy.lawS4093CPlant
open Go.ChangeShapes Go.WideShapes Go.ChangeAt Go.RowKit
open Go.ChangeMaps (open_string shut_string)
set_option linter.unusedVariables false

theorem own : ownKnob Yba.prog.godebug = none := by kernel_rfl
theorem Yba.info5 : (Yba.prog.info? 5).map (fun i => (i.zero, i.size, i.bytes)) = some (some (.int .u8 0), 1, 1) := by kernel_rfl
theorem bd16 {a : Int} (h : (Lit.int .u16 a).wf = true) : 0 ≤ a ∧ a ≤ 65535 := by
  simp only [Lit.wf, Bool.and_eq_true, decide_eq_true_eq] at h
  exact h
theorem zeros_row (g n : Nat) (w : World) (base : Nat) (hown : w.ownsRow base 5 1 (.slice (some ⟨g, 0, none⟩) n n) n (madeCells (Value.int IntKind.u8 0).cells (n * 1)).toList) :
    ∀ j, j < n → w.cell? ⟨g, 0 + j, none⟩ = some (.int .u8 ((fun _ => 0) j)) := by
  intro j hj
  rw [Nat.zero_add, hown.cellAt j (by omega)]
  show (madeCells #[Value.int IntKind.u8 0] (n * 1)).toList[j]? = _
  rw [toList_madeCells_one]
  simp [hj]
theorem plant_row (g n p : Nat) (v : Int) (hp : p < n) (w : World) (base : Nat) (hown : w.ownsRow base 5 1 (.slice (some ⟨g, 0, none⟩) n n) n (madeCells (Value.int IntKind.u8 0).cells (n * 1)).toList) :
    ∀ j, j < n → (w.setCell ⟨g, p, none⟩ (.int .u8 v)).cell? ⟨g, 0 + j, none⟩ = some (.int .u8 ((fun i => if i = p then v else 0) j)) := by
  intro j hj
  rw [Nat.zero_add, (hown.stored p (.int .u8 v)).1.cellAt j (by omega)]
  show ((madeCells #[Value.int IntKind.u8 0] (n * 1)).toList.set p _)[j]? = _
  rw [toList_madeCells_one]
  by_cases h : j = p
  · subst h; simp [hj]
  · simp [hj, Ne.symm h, h]
theorem zB_zero (n : Nat) : zB (fun _ => 0) n = true := by simp [zB_iff]
theorem zB_plant (n p : Nat) (hp : p < n) (v : Int) : (zB (fun i => if i = p then v else 0) n == (v == 0)) = true := by
  rw [beq_iff_eq]
  by_cases h : v = 0
  · subst h; simp [zB_iff]
  · rw [zB_false _ n p hp (by simp [h])]; simp [h]
set_option maxHeartbeats 400000 in
theorem walk (a0 : Int) (a1 : Int) (a2 : Int) (w0 : (Lit.int .u16 a0).wf = true) (w1 : (Lit.int .u16 a1).wf = true) (w2 : (Lit.int .u8 a2).wf = true) (w : World) :
    Calls Yba.prog 4 #[.int .u16 a0, .int .u16 a1, .int .u8 a2] w fun e w' => e = .returned (.bool true) ∧ Below w.heap.size w w' := by
  obtain ⟨b0, b0'⟩ := bd16 w0
  obtain ⟨b1, b1'⟩ := bd16 w1
  obtain ⟨i0, hi, hz0, hz1, hz2⟩ := info_parts Yba.info5
  obtain ⟨n, hn⟩ : ∃ n : Nat, a0 % 300 = (n : Int) := ⟨(a0 % 300).toNat, by omega⟩
  have hn3 : n < 300 := by omega
  by_cases h0 : n = 0
  · subst h0
    go_enter Yba.func4, Yba.ntmps4
    go_wp2_with (at_make; refine wpList_make_full _ rfl _ _ 22 rfl w.heap.size 5 i0 (.int .u8 0) 1 Yba.underlying22 hi hz0 hz1 _ _ _ _ 0 rfl rfl (by first | rfl | omega) (by first | rfl | omega) (by rw [hz2]; omega) (by unfold maxLen; omega) (Nat.le_refl _) ?_; intro w1 hown hgrow)
    refine (zeros_nil _ 0 _).mono ?_
    rintro e w' ⟨rfl, rfl⟩
    go_wp2_with fail
    refine (zeros_nil _ 0 _).mono ?_
    rintro e w' ⟨rfl, rfl⟩
    go_wp2
    go_ret
    exact ⟨rfl, (Below.refl _ _).grown hgrow (Nat.le_refl _) (fun k hk => by cases hk)⟩
  · have hne : ((n : Int) == 0) = false := by simp [h0]
    obtain ⟨p, hp⟩ : ∃ p : Nat, a1 % (n : Int) = (p : Int) := ⟨(a1 % n).toNat, by have := Int.emod_nonneg a1 (b := (n : Int)) (by omega); omega⟩
    have hpn : p < n := by have := Int.emod_lt_of_pos a1 (b := (n : Int)) (by omega); omega
    go_enter Yba.func4, Yba.ntmps4
    go_wp2_with (at_make; refine wpList_make_full _ rfl _ _ 22 rfl w.heap.size 5 i0 (.int .u8 0) 1 Yba.underlying22 hi hz0 hz1 _ _ _ _ n rfl rfl (by first | rfl | omega) (by first | rfl | omega) (by rw [hz2]; omega) (by unfold maxLen; omega) (Nat.le_refl _) ?_; intro w1 hown hgrow)
    refine (zeros_cells w.heap.size 0 n n (fun _ => 0) _ (by omega) (zeros_row _ n _ _ hown)).mono ?_
    rw [zB_zero]
    rintro e w' ⟨rfl, rfl⟩
    have c0 : w'.cell? ⟨w.heap.size, p, none⟩ = some (.int .u8 0) := by simpa using zeros_row _ n _ _ hown p hpn
    have f0 : w'.frozen? ⟨w.heap.size, p, none⟩ = false := hown.frozenAt p
    go_wp2_with fail
    have HP : Hid ((zB (fun i => if i = p then a2 else 0) n == (a2 == 0)) = true) := zB_plant n p hpn a2
    refine (zeros_cells w.heap.size 0 n n (fun i => if i = p then a2 else 0) _ (by omega) (plant_row _ n p a2 hpn _ _ hown)).mono ?_
    generalize zB (fun i => if i = p then a2 else 0) n = z at HP ⊢
    rintro e w2 ⟨rfl, rfl⟩
    go_wp2
    go_ret
    exact ⟨ret_bool HP.out, ((Below.refl _ _).grown hgrow (Nat.le_refl _) (fun k hk => by cases hk)).setCell (Nat.le_refl _) _⟩
/-! ### THE ROW's STEP: WRITTEN OUT: LEAVE IT -/
set_option maxRecDepth 100000 in
theorem lifted (os : Os) (started : os.Started) (H : Type) (enc : TypeId × Value → H) :
    ReturnsInHanded {} Yba.checked os 4 .any (Rows.lawS4093CPlantSpec.pre6 enc Yba.prog Yba.f4 Rows.lawS4093CPlantRow.domain false) (Rows.lawS4093CPlantSpec.post enc Yba.prog Yba.f4 false true false false) := by
  refine returnsInHanded_of_change (C := Yba.checked) own started (by kernel_rfl) Yba.func4
    (ChangeSpec.witness6 (enc := enc) (C := Yba.checked) false ⟨#[], #[.int .u16 0, .int .u16 0, .int .u8 0], []⟩ 8 (by kernel_rfl) (by kernel_rfl) (by kernel_rfl) (by kernel_rfl)) ?_
  intro W base args ds gs before hval0 hW hcnd _
  have hval : ∀ (j : Nat) t v, Yba.f4.params[j]? = some t → args[j]? = some v → Value.okWide Yba.prog W .any base t v := hval0
  have hW' := hW
  obtain ⟨p, q, hA0, hV, rfl, hfz, hnd⟩ := hW
  have hA : DataW.TrodAll enc Yba.prog W 0 (fun _ => true) true Yba.f4.params.toList args.toList ds p := hA0
  rw [Yba.params4] at hA hval
  obtain ⟨v0, vs0, d0, ds0, p0, q0, hargs, rfl, rfl, h0, r0⟩ := trodAll_cons hA
  obtain ⟨v1, vs1, d1, ds1, p1, q1, rfl, rfl, rfl, h1, r1⟩ := trodAll_cons r0
  obtain ⟨v2, vs2, d2, ds2, p2, q2, rfl, rfl, rfl, h2, r2⟩ := trodAll_cons r1
  obtain ⟨rfl, rfl, rfl⟩ := trodAll_nil r2
  obtain rfl : args = #[v0, v1, v2] := by cases args; simp_all
  obtain ⟨rfl, rfl⟩ := trodVars_none hV
  obtain ⟨a0, rfl, rfl, rfl, w0⟩ := open_int Yba.underlying24 (hval 0 24 v0 rfl rfl) h0
  obtain ⟨a1, rfl, rfl, rfl, w1⟩ := open_int Yba.underlying24 (hval 1 24 v1 rfl rfl) h1
  obtain ⟨a2, rfl, rfl, rfl, w2⟩ := open_int Yba.underlying5 (hval 2 5 v2 rfl rfl) h2
  clear hA0 hval0
  simp only [List.append_nil] at hW'
  refine (walk a0 a1 a2 w0 w1 w2 W).mono fun e W' ⟨he, bel⟩ => ?_
  subst he
  exact ⟨_, rfl, _, _, _, [], [], [], hW', trodAll_mk1 (shut_bool Yba.underlying4 _), (trodAll_mk3 (shut_int Yba.underlying24 w0) (shut_int Yba.underlying24 w1) (shut_int Yba.underlying5 w2)), rfl, bel.frame _, fun h => by cases h⟩

theorem over : Rows.lawS4093CPlantRow.holds Yba.pinned (OpenSpec.ofChange Rows.lawS4093CPlantSpec) :=
  OpenClaim.holds_of_wide 4 Yba.f4 rfl rfl rfl rfl rfl rfl rfl ⟨rfl, rfl, rfl, rfl, rfl⟩ rfl rfl rfl rfl rfl (by kernel_rfl) Yba.func4 (by kernel_rfl)
    (of_decide_eq_true (by kernel_rfl)) (by unfold Func.isWrapper; first | (rw [if_pos (by decide +kernel)]; kernel_rfl) | (rw [if_neg (by decide +kernel)]; exact ⟨rfl, rfl⟩))
    (fun os started H enc _ => lifted os started H enc)

/-- ████ THE STATEMENT ████ -/
theorem proved : Rows.LawS4093CPlantSaid :=
  over
end Go.Proofs.Ybulkcfsy.lawS4093CPlant
namespace Go.Proofs.Ybulkcfsy
theorem lawS4093CPlant_proved : Rows.LawS4093CPlantSaid := lawS4093CPlant.proved
end Go.Proofs.Ybulkcfsy
