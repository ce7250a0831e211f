/-
  A PROOF OF 'Rows.LawS4090ARemoteSaid'. The frame: the guide's template (proof-skeleton.mjs), its end turned from 'Grown' to 'Below', its builder to the one that hands over the form's reach.
-/
import Derived.Test.YbulkcfriRemSame
import Derived.Test.YbulkcfriRemFar
import Derived.Test.YbulkcfriRemNew
import Derived.Test.YbulkcfriRemKnown
import Derived.OpenShut
import Derived.ShutString
import Derived.SizedLaws
namespace Go.Proofs.Ybulkcfri.lawS4090ARemote
open Go.ChangeShapes Go.WideShapes Go.ChangeAt Go.RowKit
open Go.ChangeMaps (open_string shut_string)
set_option linter.unusedVariables false

theorem own : ownKnob Yba.prog.godebug = none := by kernel_rfl

theorem ne_snoc (a : ByteArray) : ((a ++ ⟨#[120]⟩ : ByteArray).toList == a.toList) = false := by
  rw [beq_eq_false_iff_ne]
  intro h
  have h1 := congrArg List.length h
  rw [ByteArray.toList_eq, ByteArray.toList_eq] at h1
  simp at h1

theorem walk (a0 : ByteArray) (a1 : ByteArray) (a2 : ByteArray) (a3 : Int) (a4 : Int) (a5 : Int) (a6 : Int) (a7 : Bool) (a8 : Bool) (hs0 : a0.size ≤ 140737488355328) (w3 : (Lit.int .u64 a3).wf = true) (w4 : (Lit.int .u64 a4).wf = true) (w : World) :
    Calls Yba.prog 3 #[.string a0, .string a1, .string a2, .int .u64 a3, .int .u64 a4, .int .u64 a5, .int .u64 a6, .bool a7, .bool a8] w fun e w' => e = .returned (.bool true) ∧ Below w.heap.size w w' := by
  obtain ⟨u, hu, hua⟩ : ∃ u : ByteArray, (((a1.toList == a0.toList) = true ∧ u = a0 ++ ⟨#[120]⟩) ∨ ((a1.toList == a0.toList) = false ∧ u = a1)) ∧ (u.toList == a0.toList) = false := by
    cases h : (a1.toList == a0.toList) with
    | true => exact ⟨_, .inl ⟨rfl, rfl⟩, ne_snoc a0⟩
    | false => exact ⟨a1, .inr ⟨rfl, rfl⟩, h⟩
  cases a7 with
  | false =>
    cases hs : (u.toList == a2.toList) with
    | true => exact remote_same a0 a1 a2 u a3 a4 a5 a6 a8 w hs0 hu hua hs
    | false => exact remote_far a0 a1 a2 u a3 a4 a5 a6 a8 w hs0 hu hua hs
  | true =>
    cases a8 with
    | true => exact remote_known a0 a1 a2 u a3 a4 a5 a6 w hs0 hu hua w3 w4
    | false => exact remote_new a0 a1 a2 u a3 a4 a5 a6 w hs0 hu hua w3 w4

/-! ### THE ROW's STEP: WRITTEN OUT: LEAVE IT -/
set_option maxRecDepth 100000 in
theorem lifted (os : Os) (started : os.Started) (H : Type) (enc : TypeId × Value → H) :
    ReturnsInHanded {} Yba.checked os 3 .any (Rows.lawS4090ARemoteSpec.pre6 enc Yba.prog Yba.f3 Rows.lawS4090ARemoteRow.domain false) (Rows.lawS4090ARemoteSpec.post enc Yba.prog Yba.f3 false true false false) := by
  refine returnsInHanded_of_change_sized (C := Yba.checked) own started (by kernel_rfl) Yba.func3
    (ChangeSpec.witness6 (enc := enc) (C := Yba.checked) false ⟨#[], #[.string ByteArray.empty, .string ByteArray.empty, .string ByteArray.empty, .int .u64 0, .int .u64 0, .int .u64 0, .int .u64 0, .bool false, .bool false], []⟩ 8 (by kernel_rfl) (by kernel_rfl) (by kernel_rfl) (by kernel_rfl)) ?_
  intro W base args ds gs before hval0 hW hcnd hsz0 _
  have hsz : (DataW.weightsEach Yba.prog (Yba.f3.params.toList ++ Rows.lawS4090ARemoteSpec.plain.varTypes Yba.prog) (ds ++ gs)).all (· ≤ reachBytes) = true := hsz0
  have hval : ∀ (j : Nat) t v, Yba.f3.params[j]? = some t → args[j]? = some v → Value.okWide Yba.prog W .any base t v := hval0
  have hW' := hW
  obtain ⟨p, q, hA0, hV, rfl, hfz, hnd⟩ := hW
  have hA : DataW.TrodAll enc Yba.prog W 0 (fun _ => true) true Yba.f3.params.toList args.toList ds p := hA0
  rw [Yba.params3] at hA hval hsz
  obtain ⟨v0, vs0, d0, ds0, p0, q0, hargs, rfl, rfl, h0, r0⟩ := trodAll_cons hA
  obtain ⟨v1, vs1, d1, ds1, p1, q1, rfl, rfl, rfl, h1, r1⟩ := trodAll_cons r0
  obtain ⟨v2, vs2, d2, ds2, p2, q2, rfl, rfl, rfl, h2, r2⟩ := trodAll_cons r1
  obtain ⟨v3, vs3, d3, ds3, p3, q3, rfl, rfl, rfl, h3, r3⟩ := trodAll_cons r2
  obtain ⟨v4, vs4, d4, ds4, p4, q4, rfl, rfl, rfl, h4, r4⟩ := trodAll_cons r3
  obtain ⟨v5, vs5, d5, ds5, p5, q5, rfl, rfl, rfl, h5, r5⟩ := trodAll_cons r4
  obtain ⟨v6, vs6, d6, ds6, p6, q6, rfl, rfl, rfl, h6, r6⟩ := trodAll_cons r5
  obtain ⟨v7, vs7, d7, ds7, p7, q7, rfl, rfl, rfl, h7, r7⟩ := trodAll_cons r6
  obtain ⟨v8, vs8, d8, ds8, p8, q8, rfl, rfl, rfl, h8, r8⟩ := trodAll_cons r7
  obtain ⟨rfl, rfl, rfl⟩ := trodAll_nil r8
  obtain rfl : args = #[v0, v1, v2, v3, v4, v5, v6, v7, v8] := by cases args; simp_all
  obtain ⟨rfl, rfl⟩ := trodVars_none hV
  obtain ⟨a0, rfl, rfl, rfl, w0⟩ := open_string Yba.underlying9 (hval 0 9 v0 rfl rfl) h0
  obtain ⟨a1, rfl, rfl, rfl, w1⟩ := open_string Yba.underlying9 (hval 1 9 v1 rfl rfl) h1
  obtain ⟨a2, rfl, rfl, rfl, w2⟩ := open_string Yba.underlying9 (hval 2 9 v2 rfl rfl) h2
  obtain ⟨a3, rfl, rfl, rfl, w3⟩ := open_int Yba.underlying22 (hval 3 22 v3 rfl rfl) h3
  obtain ⟨a4, rfl, rfl, rfl, w4⟩ := open_int Yba.underlying22 (hval 4 22 v4 rfl rfl) h4
  obtain ⟨a5, rfl, rfl, rfl, w5⟩ := open_int Yba.underlying22 (hval 5 22 v5 rfl rfl) h5
  obtain ⟨a6, rfl, rfl, rfl, w6⟩ := open_int Yba.underlying22 (hval 6 22 v6 rfl rfl) h6
  obtain ⟨a7, rfl, rfl, rfl⟩ := open_bool Yba.underlying4 (hval 7 4 v7 rfl rfl) h7
  obtain ⟨a8, rfl, rfl, rfl⟩ := open_bool Yba.underlying4 (hval 8 4 v8 rfl rfl) h8
  clear hA0 hval0
  simp only [List.append_nil] at hW'
  have hs0 : a0.size ≤ 140737488355328 := by
    have := sized_string hsz (j := 0) (t := 9) rfl rfl
    simp only [reachBytes, Array.length_toList] at this
    have h2 : a0.size = a0.data.size := rfl
    omega
  refine (walk a0 a1 a2 a3 a4 a5 a6 a7 a8 hs0 w3 w4 W).mono fun e W' ⟨he, bel⟩ => ?_
  subst he
  exact ⟨_, rfl, _, _, _, [], [], [], hW', trodAll_mk1 (shut_bool Yba.underlying4 _), (trodAll_cons_mk (shut_string Yba.underlying9 w0) (trodAll_cons_mk (shut_string Yba.underlying9 w1) (trodAll_cons_mk (shut_string Yba.underlying9 w2) (trodAll_cons_mk (shut_int Yba.underlying22 w3) (trodAll_cons_mk (shut_int Yba.underlying22 w4) (trodAll_cons_mk (shut_int Yba.underlying22 w5) (trodAll_cons_mk (shut_int Yba.underlying22 w6) (trodAll_cons_mk (shut_bool Yba.underlying4 _) (trodAll_cons_mk (shut_bool Yba.underlying4 _) trodAll_mk0))))))))), rfl, bel.frame _, fun h => by cases h⟩

theorem over : Rows.lawS4090ARemoteRow.holds Yba.pinned (OpenSpec.ofChange Rows.lawS4090ARemoteSpec) :=
  OpenClaim.holds_of_wide 3 Yba.f3 rfl rfl rfl rfl rfl rfl rfl ⟨rfl, rfl, rfl, rfl, rfl⟩ rfl rfl rfl rfl rfl (by kernel_rfl) Yba.func3 (by kernel_rfl)
    (of_decide_eq_true (by kernel_rfl)) (by unfold Func.isWrapper; first | (rw [if_pos (by decide +kernel)]; kernel_rfl) | (rw [if_neg (by decide +kernel)]; exact ⟨rfl, rfl⟩))
    (fun os started H enc _ => lifted os started H enc)

/-- ████ THE STATEMENT ████ -/
theorem proved : Rows.LawS4090ARemoteSaid :=
  over
end Go.Proofs.Ybulkcfri.lawS4090ARemote
namespace Go.Proofs.Ybulkcfri
theorem lawS4090ARemote_proved : Rows.LawS4090ARemoteSaid := lawS4090ARemote.proved
end Go.Proofs.Ybulkcfri
