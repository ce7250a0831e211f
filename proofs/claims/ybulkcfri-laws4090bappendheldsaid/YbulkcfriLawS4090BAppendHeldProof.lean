/-
  A PROOF OF 'Rows.LawS4090BAppendHeldSaid'. The frame: the guide's template (proof-skeleton.mjs), turned to a slice of structs.
-/
import Derived.Test.YbulkcfriLaw5
import Derived.Test.YbulkcfriOpsIn
namespace Go.Proofs.Ybulkcfri.lawS4090BAppendHeld
open Go.ChangeShapes Go.WideShapes Go.ChangeAt Go.RowKit
theorem own : ownKnob Yba.prog.godebug = none := by kernel_rfl
theorem walk_big (ad : Option Addr) (L c : Nat) (x y : Nat) (w : World) (hL : 1024 < L) :
    Calls Yba.prog 5 #[.slice ad L c, .int .u8 x, .int .u8 y] w fun e w' => e = .returned (.bool true) ∧ Below w.heap.size w w' := by
  have hLi : ((L : Int) > 1024) := by omega
  go_enter Yba.func5, Yba.ntmps5
  go_wp2
  go_ret
  exact ⟨rfl, Below.refl _ _⟩
theorem walk (ad : Option Addr) (L c : Nat) (d1 d2 d3 : Nat → Nat) (x y : Nat) (hx : x < 256) (hy : y < 256) (w : World) (hops : OpsAt w ad L d1 d2 d3) :
    Calls Yba.prog 5 #[.slice ad L c, .int .u8 x, .int .u8 y] w fun e w' => e = .returned (.bool true) ∧ Below w.heap.size w w' := by
  by_cases hL : L ≤ 1024
  · exact law5_walk ad L c d1 d2 d3 x y hx hy w hops hL
  · exact walk_big ad L c x y w (by omega)
set_option maxRecDepth 100000 in
theorem lifted (os : Os) (started : os.Started) (H : Type) (enc : TypeId × Value → H) :
    ReturnsInHanded {} Yba.checked os 5 .any (Rows.lawS4090BAppendHeldSpec.pre6 enc Yba.prog Yba.f5 Rows.lawS4090BAppendHeldRow.domain false) (Rows.lawS4090BAppendHeldSpec.post enc Yba.prog Yba.f5 false true false false) := by
  refine returnsInHanded_of_change (C := Yba.checked) own started (by kernel_rfl) Yba.func5
    (ChangeSpec.witness6 (enc := enc) (C := Yba.checked) false ⟨#[], #[.slice none 0 0, .int .u8 0, .int .u8 0], []⟩ 8 (by kernel_rfl) (by kernel_rfl) (by kernel_rfl) (by kernel_rfl)) ?_
  intro W base args ds gs before hval0 hW hcnd _
  have hval : ∀ (j : Nat) t v, Yba.f5.params[j]? = some t → args[j]? = some v → Value.okWide Yba.prog W .any base t v := hval0
  have hW' := hW
  obtain ⟨p, q, hA0, hV, rfl, hfz, hnd⟩ := hW
  have hA : DataW.TrodAll enc Yba.prog W 0 (fun _ => true) true Yba.f5.params.toList args.toList ds p := hA0
  rw [Yba.params5] at hA hval
  obtain ⟨v0, vs0, d0, ds0, p0, q0, hargs, rfl, rfl, h0, r0⟩ := trodAll_cons hA
  obtain ⟨v1, vs1, d1, ds1, p1, q1, rfl, rfl, rfl, h1, r1⟩ := trodAll_cons r0
  obtain ⟨v2, vs2, d2, ds2, p2, q2, rfl, rfl, rfl, h2, r2⟩ := trodAll_cons r1
  obtain ⟨rfl, rfl, rfl⟩ := trodAll_nil r2
  obtain rfl : args = #[v0, v1, v2] := by cases args; simp_all
  obtain ⟨rfl, rfl⟩ := trodVars_none hV
  obtain ⟨a0, len0, cap0, rfl⟩ := okWide_slice Yba.underlying81 (hval 0 81 v0 rfl rfl)
  obtain ⟨a1, rfl, rfl, rfl, w1⟩ := open_int Yba.underlying5 (hval 1 5 v1 rfl rfl) h1
  obtain ⟨a2, rfl, rfl, rfl, w2⟩ := open_int Yba.underlying5 (hval 2 5 v2 rfl rfl) h2
  have k0 := h0
  have lt0 : ∀ x ∈ p0, x.block < W.heap.size := by obtain ⟨m, hm⟩ := k0; exact DataW.trod_lt m _ _ _ hm
  obtain ⟨e1, e2, e3, hops⟩ : ∃ e1 e2 e3, OpsAt W a0 len0 e1 e2 e3 := by
    obtain ⟨fuel, hf⟩ := h0
    exact ops_in hf
  obtain ⟨x, rfl, hx⟩ := u8_nat w1
  obtain ⟨y, rfl, hy⟩ := u8_nat w2
  clear hA0 hval0
  simp only [List.append_nil] at hW'
  refine (walk a0 len0 cap0 e1 e2 e3 x y hx hy W hops).mono fun e W' ⟨he, bel⟩ => ?_
  subst he
  exact ⟨_, rfl, _, _, _, [], _, [], hW', trodAll_mk1 (shut_bool Yba.underlying4 _), (trodAll_cons_mk (Below.trod laidOut (by kernel_rfl) (of_decide_eq_true (by kernel_rfl)) k0 bel lt0) (trodAll_cons_mk (shut_int Yba.underlying5 w1) (trodAll_cons_mk (shut_int Yba.underlying5 w2) trodAll_mk0))), rfl, bel.frame _, fun h => by cases h⟩
theorem over : Rows.lawS4090BAppendHeldRow.holds Yba.pinned (OpenSpec.ofChange Rows.lawS4090BAppendHeldSpec) :=
  OpenClaim.holds_of_wide 5 Yba.f5 rfl rfl rfl rfl rfl rfl rfl ⟨rfl, rfl, rfl, rfl, rfl⟩ rfl rfl rfl rfl rfl (by kernel_rfl) Yba.func5 (by kernel_rfl)
    (of_decide_eq_true (by kernel_rfl)) (by unfold Func.isWrapper; first | (rw [if_pos (by decide +kernel)]; kernel_rfl) | (rw [if_neg (by decide +kernel)]; exact ⟨rfl, rfl⟩))
    (fun os started H enc _ => lifted os started H enc)
/-- THE STATEMENT -/
theorem proved : Rows.LawS4090BAppendHeldSaid := over
end Go.Proofs.Ybulkcfri.lawS4090BAppendHeld
namespace Go.Proofs.Ybulkcfri
theorem lawS4090BAppendHeld_proved : Rows.LawS4090BAppendHeldSaid := lawS4090BAppendHeld.proved
end Go.Proofs.Ybulkcfri
