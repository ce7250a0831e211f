/-
  A PROOF OF 'Rows.LawS4090BModelSaid'. The frame: the guide's template (proof-skeleton.mjs), turned to a slice of structs.
-/
import Derived.Test.YbulkcfriLaw6
import Derived.Test.YbulkcfriOpsIn
namespace Go.Proofs.Ybulkcfri.lawS4090BModel
open Go.ChangeShapes Go.WideShapes Go.ChangeAt Go.RowKit
theorem own : ownKnob Yba.prog.godebug = none := by kernel_rfl
set_option maxRecDepth 100000 in
theorem walk_big (ad : Option Addr) (L c : Nat) (w : World) (hL : 1024 < L) :
    Calls Yba.prog 6 #[.slice ad L c] w fun e w' => e = .returned (.bool true) ∧ Below w.heap.size w w' := by
  have hLi : ((L : Int) > 1024) := by omega
  go_enter Yba.func6, Yba.ntmps6
  go_wp2
  go_ret
  exact ⟨rfl, Below.refl _ _⟩
theorem walk (ad : Option Addr) (L c : Nat) (d1 d2 d3 : Nat → Nat) (w : World) (hops : OpsAt w ad L d1 d2 d3) :
    Calls Yba.prog 6 #[.slice ad L c] w fun e w' => e = .returned (.bool true) ∧ Below w.heap.size w w' := by
  by_cases hL : L ≤ 1024
  · exact law6_walk ad L c d1 d2 d3 w hops hL
  · exact walk_big ad L c w (by omega)
set_option maxRecDepth 100000 in
theorem lifted (os : Os) (started : os.Started) (H : Type) (enc : TypeId × Value → H) :
    ReturnsInHanded {} Yba.checked os 6 .any (Rows.lawS4090BModelSpec.pre6 enc Yba.prog Yba.f6 Rows.lawS4090BModelRow.domain false) (Rows.lawS4090BModelSpec.post enc Yba.prog Yba.f6 false true false false) := by
  refine returnsInHanded_of_change (C := Yba.checked) own started (by kernel_rfl) Yba.func6
    (ChangeSpec.witness6 (enc := enc) (C := Yba.checked) false ⟨#[], #[.slice none 0 0], []⟩ 8 (by kernel_rfl) (by kernel_rfl) (by kernel_rfl) (by kernel_rfl)) ?_
  intro W base args ds gs before hval0 hW hcnd _
  have hval : ∀ (j : Nat) t v, Yba.f6.params[j]? = some t → args[j]? = some v → Value.okWide Yba.prog W .any base t v := hval0
  have hW' := hW
  obtain ⟨p, q, hA0, hV, rfl, hfz, hnd⟩ := hW
  have hA : DataW.TrodAll enc Yba.prog W 0 (fun _ => true) true Yba.f6.params.toList args.toList ds p := hA0
  rw [Yba.params6] at hA hval
  obtain ⟨v0, vs0, d0, ds0, p0, q0, hargs, rfl, rfl, h0, r0⟩ := trodAll_cons hA
  obtain ⟨rfl, rfl, rfl⟩ := trodAll_nil r0
  obtain rfl : args = #[v0] := by cases args; simp_all
  obtain ⟨rfl, rfl⟩ := trodVars_none hV
  obtain ⟨a0, len0, cap0, rfl⟩ := okWide_slice Yba.underlying81 (hval 0 81 v0 rfl rfl)
  have k0 := h0
  have lt0 : ∀ x ∈ p0, x.block < W.heap.size := by obtain ⟨m, hm⟩ := k0; exact DataW.trod_lt m _ _ _ hm
  obtain ⟨e1, e2, e3, hops⟩ : ∃ e1 e2 e3, OpsAt W a0 len0 e1 e2 e3 := by
    obtain ⟨fuel, hf⟩ := h0
    exact ops_in hf
  clear hA0 hval0
  refine (walk a0 len0 cap0 e1 e2 e3 W hops).mono fun e W' ⟨he, bel⟩ => ?_
  subst he
  exact ⟨_, rfl, _, _, _, [], _, [], hW', trodAll_mk1 (shut_bool Yba.underlying4 _), (trodAll_cons_mk (Below.trod laidOut (by kernel_rfl) (of_decide_eq_true (by kernel_rfl)) k0 bel lt0) trodAll_mk0), rfl, bel.frame _, fun h => by cases h⟩
theorem over : Rows.lawS4090BModelRow.holds Yba.pinned (OpenSpec.ofChange Rows.lawS4090BModelSpec) :=
  OpenClaim.holds_of_wide 6 Yba.f6 rfl rfl rfl rfl rfl rfl rfl ⟨rfl, rfl, rfl, rfl, rfl⟩ rfl rfl rfl rfl rfl (by kernel_rfl) Yba.func6 (by kernel_rfl)
    (of_decide_eq_true (by kernel_rfl)) (by unfold Func.isWrapper; first | (rw [if_pos (by decide +kernel)]; kernel_rfl) | (rw [if_neg (by decide +kernel)]; exact ⟨rfl, rfl⟩))
    (fun os started H enc _ => lifted os started H enc)
/-- THE STATEMENT -/
theorem proved : Rows.LawS4090BModelSaid := over
end Go.Proofs.Ybulkcfri.lawS4090BModel
namespace Go.Proofs.Ybulkcfri
theorem lawS4090BModel_proved : Rows.LawS4090BModelSaid := lawS4090BModel.proved
end Go.Proofs.Ybulkcfri
