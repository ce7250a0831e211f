/-
  A PROOF OF 'Rows.LawS4090ALocalSaid'. The frame: the guide's template (proof-skeleton.mjs), its end turned from 'Grown' to 'Below'.
-/
import Derived.Test.YbulkcfriLaw4
import Derived.Deep.Grids
import Derived.OpenShut
import Derived.ShutString
import Derived.ChangeOld
import Derived.SizedLaws
namespace Go.Proofs.Ybulkcfri.lawS4090ALocal
open Go.ChangeShapes Go.WideShapes Go.ChangeAt Go.RowKit
open Go.ChangeMaps (open_string shut_string)
set_option linter.unusedVariables false

theorem own : ownKnob Yba.prog.godebug = none := by kernel_rfl
theorem laidOut : laidOutB Yba.prog = true := by kernel_rfl

set_option maxRecDepth 100000 in
theorem walk_big1 (a0 a1 : ByteArray) (up p : Int) (ad4 : Option Addr) (L c4 : Nat) (ad5 : Option Addr) (Lm c5 : Nat) (pre had : Bool) (prior : Int) (w : World) (h : 1024 < L) :
    Calls Yba.prog 4 #[.string a0, .string a1, .int .u64 up, .int .u64 p, .slice ad4 L c4, .slice ad5 Lm c5, .bool pre, .bool had, .int .u8 prior] w fun e w' => e = .returned (.bool true) ∧ Below w.heap.size w w' := by
  have hLi : (L : Int) > 1024 := by omega
  go_enter Yba.func4, Yba.ntmps4
  go_wp2
  go_ret
  exact ⟨rfl, Below.refl _ _⟩
set_option maxRecDepth 100000 in
theorem walk_big2 (a0 a1 : ByteArray) (up p : Int) (ad4 : Option Addr) (L c4 : Nat) (ad5 : Option Addr) (Lm c5 : Nat) (pre had : Bool) (prior : Int) (w : World) (h : L ≤ 1024) (h2 : 1024 < Lm) :
    Calls Yba.prog 4 #[.string a0, .string a1, .int .u64 up, .int .u64 p, .slice ad4 L c4, .slice ad5 Lm c5, .bool pre, .bool had, .int .u8 prior] w fun e w' => e = .returned (.bool true) ∧ Below w.heap.size w w' := by
  have hLi : ¬ ((L : Int) > 1024) := by omega
  have hLm : (Lm : Int) > 1024 := by omega
  go_enter Yba.func4, Yba.ntmps4
  go_wp2
  go_ret
  exact ⟨rfl, Below.refl _ _⟩

theorem walk (a0 a1 : ByteArray) (up p : Int) (hup : (Lit.int .u64 up).wf = true) (hp : (Lit.int .u64 p).wf = true) (ad4 : Option Addr) (L c4 : Nat) (ad5 : Option Addr) (Lm c5 : Nat) (xs : Nat → Int) (bs : Nat → Bool) (pre had : Bool) (prior : Int) (hpr : (Lit.int .u8 prior).wf = true) (w : World) (h4 : IntsAt w ad4 L xs) (h5 : BoolsAt w ad5 Lm bs) :
    Calls Yba.prog 4 #[.string a0, .string a1, .int .u64 up, .int .u64 p, .slice ad4 L c4, .slice ad5 Lm c5, .bool pre, .bool had, .int .u8 prior] w fun e w' => e = .returned (.bool true) ∧ Below w.heap.size w w' := by
  by_cases hL : 1024 < L
  · exact walk_big1 a0 a1 up p ad4 L c4 ad5 Lm c5 pre had prior w hL
  by_cases hLm : 1024 < Lm
  · exact walk_big2 a0 a1 up p ad4 L c4 ad5 Lm c5 pre had prior w (by omega) hLm
  have hb : 0 ≤ prior ∧ prior ≤ 255 := by
    simp only [Lit.wf, Bool.and_eq_true, decide_eq_true_eq] at hpr
    exact hpr
  obtain ⟨pn, rfl⟩ : ∃ pn : Nat, prior = pn := ⟨prior.toNat, by omega⟩
  have hpn : pn < 256 := by omega
  exact law4_walk a0 a1 up p hup hp ad4 L c4 ad5 Lm c5 xs bs pre had pn hpn w h4 h5 (by omega) (by omega)

/-! ### THE ROW's STEP -/
set_option maxRecDepth 100000 in
theorem lifted (os : Os) (started : os.Started) (H : Type) (enc : TypeId × Value → H) :
    ReturnsInHanded {} Yba.checked os 4 .any (Rows.lawS4090ALocalSpec.pre6 enc Yba.prog Yba.f4 Rows.lawS4090ALocalRow.domain false) (Rows.lawS4090ALocalSpec.post enc Yba.prog Yba.f4 false true false false) := by
  refine returnsInHanded_of_change (C := Yba.checked) own started (by kernel_rfl) Yba.func4
    (ChangeSpec.witness6 (enc := enc) (C := Yba.checked) false ⟨#[], #[.string ByteArray.empty, .string ByteArray.empty, .int .u64 0, .int .u64 0, .slice none 0 0, .slice none 0 0, .bool false, .bool false, .int .u8 0], []⟩ 8 (by kernel_rfl) (by kernel_rfl) (by kernel_rfl) (by kernel_rfl)) ?_
  intro W base args ds gs before hval0 hW hcnd _
  have hval : ∀ (j : Nat) t v, Yba.f4.params[j]? = some t → args[j]? = some v → Value.okWide Yba.prog W .any base t v := hval0
  have hW' := hW
  obtain ⟨p, q, hA0, hV, rfl, hfz, hnd⟩ := hW
  have hA : DataW.TrodAll enc Yba.prog W 0 (fun _ => true) true Yba.f4.params.toList args.toList ds p := hA0
  rw [Yba.params4] at hA hval
  obtain ⟨v0, vs0, d0, ds0, p0, q0, hargs, rfl, rfl, h0, r0⟩ := trodAll_cons hA
  obtain ⟨v1, vs1, d1, ds1, p1, q1, rfl, rfl, rfl, h1, r1⟩ := trodAll_cons r0
  obtain ⟨v2, vs2, d2, ds2, p2, q2, rfl, rfl, rfl, h2, r2⟩ := trodAll_cons r1
  obtain ⟨v3, vs3, d3, ds3, p3, q3, rfl, rfl, rfl, h3, r3⟩ := trodAll_cons r2
  obtain ⟨v4, vs4, d4, ds4, p4, q4, rfl, rfl, rfl, h4, r4⟩ := trodAll_cons r3
  obtain ⟨v5, vs5, d5, ds5, p5, q5, rfl, rfl, rfl, h5, r5⟩ := trodAll_cons r4
  obtain ⟨v6, vs6, d6, ds6, p6, q6, rfl, rfl, rfl, h6, r6⟩ := trodAll_cons r5
  obtain ⟨v7, vs7, d7, ds7, p7, q7, rfl, rfl, rfl, h7, r7⟩ := trodAll_cons r6
  obtain ⟨v8, vs8, d8, ds8, p8, q8, rfl, rfl, rfl, h8, r8⟩ := trodAll_cons r7
  obtain ⟨rfl, rfl, rfl⟩ := trodAll_nil r8
  obtain rfl : args = #[v0, v1, v2, v3, v4, v5, v6, v7, v8] := by cases args; simp_all
  obtain ⟨rfl, rfl⟩ := trodVars_none hV
  obtain ⟨a0, rfl, rfl, rfl, w0⟩ := open_string Yba.underlying9 (hval 0 9 v0 rfl rfl) h0
  obtain ⟨a1, rfl, rfl, rfl, w1⟩ := open_string Yba.underlying9 (hval 1 9 v1 rfl rfl) h1
  obtain ⟨a2, rfl, rfl, rfl, w2⟩ := open_int Yba.underlying22 (hval 2 22 v2 rfl rfl) h2
  obtain ⟨a3, rfl, rfl, rfl, w3⟩ := open_int Yba.underlying22 (hval 3 22 v3 rfl rfl) h3
  obtain ⟨a4, len4, cap4, rfl⟩ := okWide_slice Yba.underlying31 (hval 4 31 v4 rfl rfl)
  obtain ⟨a5, len5, cap5, rfl⟩ := okWide_slice Yba.underlying73 (hval 5 73 v5 rfl rfl)
  obtain ⟨a6, rfl, rfl, rfl⟩ := open_bool Yba.underlying4 (hval 6 4 v6 rfl rfl) h6
  obtain ⟨a7, rfl, rfl, rfl⟩ := open_bool Yba.underlying4 (hval 7 4 v7 rfl rfl) h7
  obtain ⟨a8, rfl, rfl, rfl, w8⟩ := open_int Yba.underlying5 (hval 8 5 v8 rfl rfl) h8
  have k4 := h4
  have k5 := h5
  have lt4 : ∀ x ∈ p4, x.block < W.heap.size := by obtain ⟨m, hm⟩ := k4; exact DataW.trod_lt m _ _ _ hm
  have lt5 : ∀ x ∈ p5, x.block < W.heap.size := by obtain ⟨m, hm⟩ := k5; exact DataW.trod_lt m _ _ _ hm
  obtain ⟨xs, ix⟩ : ∃ xs, IntsAt W a4 len4 xs := by
    obtain ⟨fuel, hf⟩ := h4
    rcases open_ints Yba.underlying31 Yba.underlying22 (by kernel_rfl) hf with ⟨hcs, _⟩ | ⟨x, l, c, zs, hcs, _, hl, hm, hz, _, hcell, hwz⟩
    · simp [Value.cells] at hcs
      obtain ⟨rfl, rfl, rfl⟩ := hcs
      exact ⟨fun _ => 0, .inl rfl⟩
    · simp [Value.cells] at hcs
      obtain ⟨rfl, rfl, rfl⟩ := hcs
      by_cases h0 : len4 = 0
      · exact ⟨fun _ => 0, .inl h0⟩
      obtain ⟨b, off, rfl, hc⟩ := ints_at hcell (by simp at hz; omega)
      refine ⟨fun j => zs.getD j 0, .inr ⟨b, off, rfl, ?_, fun i hi => ⟨hc i (by simp at hz; omega), hwz _ ?_⟩⟩⟩
      · have h1 := hc 0 (by simp at hz; omega)
        rcases Nat.lt_or_ge b W.heap.size with h | h
        · exact h
        · simp [World.cell?, Array.getElem?_eq_none h] at h1
      · show zs.getD i 0 ∈ zs
        have hlt : i < zs.length := by simp at hz; omega
        rw [List.getD_eq_getElem?_getD, List.getElem?_eq_getElem hlt]
        exact List.getElem_mem hlt
  obtain ⟨bs, ib⟩ : ∃ bs, BoolsAt W a5 len5 bs := by
    obtain ⟨fuel, hf⟩ := h5
    rcases Go.Deep.open_bools Yba.underlying73 Yba.underlying4 (by kernel_rfl) hf with ⟨hcs, _⟩ | ⟨x, l, c, B, hcs, _, hl, hm, _, hcell⟩
    · simp [Value.cells] at hcs
      obtain ⟨rfl, rfl, rfl⟩ := hcs
      exact ⟨fun _ => false, .inl rfl⟩
    · simp [Value.cells] at hcs
      obtain ⟨rfl, rfl, rfl⟩ := hcs
      by_cases h0 : len5 = 0
      · exact ⟨fun _ => false, .inl h0⟩
      obtain ⟨b, off, nn⟩ := x
      have hbn : nn = none := by simpa [Addr.add] using World.cell?_spot (hcell 0 (by omega))
      subst hbn
      have hc : ∀ i, i < cap5 → W.cell? ⟨b, off + i, none⟩ = some (.bool (B i)) := by
        intro i hi
        rw [← Go.WideShapes.add_plain]; exact hcell i hi
      refine ⟨B, .inr ⟨b, off, rfl, ?_, fun i hi => hc i (by omega)⟩⟩
      have h1 := hc 0 (by omega)
      rcases Nat.lt_or_ge b W.heap.size with h | h
      · exact h
      · simp [World.cell?, Array.getElem?_eq_none h] at h1
  clear hA0 hval0
  simp only [List.append_nil] at hW'
  refine (walk a0 a1 a2 a3 w2 w3 a4 len4 cap4 a5 len5 cap5 xs bs a6 a7 a8 w8 W ix ib).mono fun e W' ⟨he, bel⟩ => ?_
  subst he
  exact ⟨_, rfl, _, _, _, [], _, [], hW', trodAll_mk1 (shut_bool Yba.underlying4 _), (trodAll_cons_mk (shut_string Yba.underlying9 w0) (trodAll_cons_mk (shut_string Yba.underlying9 w1) (trodAll_cons_mk (shut_int Yba.underlying22 w2) (trodAll_cons_mk (shut_int Yba.underlying22 w3) (trodAll_cons_mk (Below.trod laidOut (by kernel_rfl) (of_decide_eq_true (by kernel_rfl)) k4 bel lt4) (trodAll_cons_mk (Below.trod laidOut (by kernel_rfl) (of_decide_eq_true (by kernel_rfl)) k5 bel lt5) (trodAll_cons_mk (shut_bool Yba.underlying4 _) (trodAll_cons_mk (shut_bool Yba.underlying4 _) (trodAll_cons_mk (shut_int Yba.underlying5 w8) trodAll_mk0))))))))), rfl, bel.frame _, fun h => by cases h⟩

theorem over : Rows.lawS4090ALocalRow.holds Yba.pinned (OpenSpec.ofChange Rows.lawS4090ALocalSpec) :=
  OpenClaim.holds_of_wide 4 Yba.f4 rfl rfl rfl rfl rfl rfl rfl ⟨rfl, rfl, rfl, rfl, rfl⟩ rfl rfl rfl rfl rfl (by kernel_rfl) Yba.func4 (by kernel_rfl)
    (of_decide_eq_true (by kernel_rfl)) (by unfold Func.isWrapper; first | (rw [if_pos (by decide +kernel)]; kernel_rfl) | (rw [if_neg (by decide +kernel)]; exact ⟨rfl, rfl⟩))
    (fun os started H enc _ => lifted os started H enc)

/-- ████ THE STATEMENT ████ -/
theorem proved : Rows.LawS4090ALocalSaid :=
  over
end Go.Proofs.Ybulkcfri.lawS4090ALocal
namespace Go.Proofs.Ybulkcfri
theorem lawS4090ALocal_proved : Rows.LawS4090ALocalSaid := lawS4090ALocal.proved
end Go.Proofs.Ybulkcfri
