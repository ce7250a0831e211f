/-
  A PROOF OF 'Rows.LawS4093CModelSaid'. The frame: the guide's template (proof-skeleton.mjs).
-/
import Derived.Test.YbulkcfsyModel
import Derived.OpenShut
import Derived.Laws.CopyOwn
import Derived.Laws.OwnMore
import Derived.BigQuiet
import Derived.Deep.QuietTactic
import Derived.ShutString
import Derived.ChangeOld
import Derived.Below
namespace Go.Proofs.Ybulkcfsy.lawS4093CModel
open Go.ChangeShapes Go.WideShapes Go.ChangeAt Go.RowKit
open Go.ChangeMaps (open_string shut_string)
set_option linter.unusedVariables false

theorem own : ownKnob Yba.prog.godebug = none := by kernel_rfl
theorem laidOut : laidOutB Yba.prog = true := by kernel_rfl

/-- WHAT THE WALK IS TOLD OF A SLICE OF INTEGERS THAT CAME IN: it is nil; or it leads to a row of 'cap' cells, the numbers 'zs' (the first 'len' are its elements, the rest its spare room), each fitting its kind. -/
def IsRow (k : IntKind) (w : World) (a : Option Addr) (len cap : Nat) (zs : List Int) : Prop :=
  (a = none ∧ len = 0 ∧ cap = 0 ∧ zs = []) ∨
  ∃ x, a = some x ∧ len ≤ cap ∧ cap ≤ maxLen ∧ zs.length = cap ∧ (∀ i, i < zs.length → w.cell? (x.add i) = some (.int k (zs.getD i 0))) ∧ ∀ n ∈ zs, (Lit.int k n).wf = true


theorem info5 : (Yba.prog.info? 5).map (fun i => (i.zero, i.size, i.bytes)) = some (some (.int .u8 0), 1, 1) := by kernel_rfl

set_option maxHeartbeats 400000 in
theorem walk_big (a0 : Option Addr) (len0 cap0 : Nat) (w : World) (h : 4096 < len0) :
    Calls Yba.prog 3 #[.slice a0 len0 cap0] w fun e w' => e = .returned (.bool true) ∧ Below w.heap.size w w' := by
  go_enter Yba.func3, Yba.ntmps3
  go_wp2
  go_ret
  exact ⟨rfl, Below.refl _ _⟩


/-- 'copy(c, b)' into the row that 'make' has just laid: what it leaves. -/
theorem copied (w w1 : World) (b off n cap : Nat) (f : Nat → Int) (hb : b < w.heap.size)
    (hc : ∀ j, j < n → w.cell? ⟨b, off + j, none⟩ = some (.int .u8 (f j))) (zs : List Value)
    (hown : w1.ownsRow w.heap.size 5 1 (.slice (some ⟨w.heap.size, 0, none⟩) n n) n zs) (hgrow : w.grownBy w1 none) :
    ∃ w2, (Builtin.copy_ #[22, 22] 3 #[.slice (some ⟨w.heap.size, 0, none⟩) n n, .slice (some ⟨b, off, none⟩) n cap]).run Yba.prog w1 = .ok (.int .i64 n) w2 ∧
      (∀ j, j < n → w2.cell? ⟨w.heap.size, j, none⟩ = some (.int .u8 (f j))) ∧ Below w.heap.size w w2 := by
  have hbel : Below w.heap.size w w1 := (Below.refl _ _).grown hgrow (Nat.le_refl _) (fun k hk => by cases hk)
  obtain ⟨_, ⟨h, _⟩ | ⟨g, cap', cur, hv, _, hheap, _, _, hsz, _⟩⟩ := hown
  · cases h
  simp at hv
  obtain ⟨rfl, rfl⟩ := hv
  have hl : ((List.range n).map fun j => Value.int .u8 (f j)).length = n := by simp
  have hsz' : cur.size = n := by omega
  have hrun := run_copy_row (P := Yba.prog) w1 22 22 3 5 w.heap.size 0 n n ⟨b, off, none⟩ n cap cur 5 ((List.range n).map fun j => .int .u8 (f j)) Yba.underlying22 (by kernel_rfl) hheap (by simp)
    (by
      intro j v hj
      by_cases hjn : j < n
      · simp [hjn] at hj
        subst hj
        have := (hbel.cell (p := ⟨b, off + j, none⟩) hb).trans (hc j hjn)
        by_cases h0 : j = 0
        · subst h0; simpa [Addr.add] using this
        · simpa [Addr.add, h0] using this
      · simp [hjn] at hj)
    (by rw [hl, hsz']; omega) (by intro v hv; simp at hv; obtain ⟨j, _, rfl⟩ := hv; rfl)
  have hdrop : cur.toList.drop n = [] := List.drop_eq_nil_of_le (by simp [hsz'])
  rw [hl, Nat.zero_add, hdrop, List.take_zero, List.nil_append, List.append_nil] at hrun
  refine ⟨_, hrun, fun j hj => ?_, below_setRow hbel (Nat.le_refl _) _⟩
  rw [World.cell?, setRow_heap w1 w.heap.size _ _ _ _ hheap]
  simp [hj]

theorem walk_row (b off n cap0 : Nat) (f : Nat → Int) (w : World) (hpos : 0 < n) (hle : n ≤ 4096) 
    (hc : ∀ j, j < n → w.cell? ⟨b, off + j, none⟩ = some (.int .u8 (f j))) :
    Calls Yba.prog 3 #[.slice (some ⟨b, off, none⟩) n cap0] w fun e w' => e = .returned (.bool true) ∧ Below w.heap.size w w' := by
  obtain ⟨i0, hi, hz0, hz1, hz2⟩ := info_parts info5
  have hblt : b < w.heap.size := by
    have := hc 0 hpos
    rcases Nat.lt_or_ge b w.heap.size with h | h
    · exact h
    · simp [World.cell?, Array.getElem?_eq_none h] at this
  have ht : decide ((4096 : Int) < (n : Int)) = false := decide_eq_false (by omega)
  go_enter Yba.func3, Yba.ntmps3
  go_wp2_with (at_make; refine wpList_make_full _ rfl _ _ 22 rfl w.heap.size 5 i0 (.int .u8 0) 1 Yba.underlying22 hi hz0 hz1 _ _ _ _ n rfl rfl (by first | rfl | omega) (by first | rfl | omega) (by rw [hz2]; omega) (by unfold maxLen; omega) (Nat.le_refl _) ?_; intro w1 hown hgrow; obtain ⟨w2, hrun, hnew, hbel⟩ := copied w w1 b off n cap0 f hblt hc _ hown hgrow; clear hown hgrow)
  have hc2 : ∀ j, j < n → w2.cell? ⟨b, off + j, none⟩ = some (.int .u8 (f j)) := fun j hj => (hbel.cell (p := ⟨b, off + j, none⟩) hblt).trans (hc j hj)
  refine (zeros_cells b off n cap0 f _ (by omega) hc2).mono ?_
  obtain ⟨z, hz⟩ : ∃ z, zB f n = z := ⟨_, rfl⟩
  rw [hz]
  have HZ : Hid (zB f n = z) := hz
  clear hz
  rintro e w3 ⟨rfl, rfl⟩
  clear hrun
  go_wp2_with fail
  refine (model_cells b off n cap0 f _ (by omega) hc2).mono ?_
  rw [HZ.out]
  have hzz : (z != z) = false := by simp
  clear HZ
  rintro e w4 ⟨rfl, rfl⟩
  go_wp2
  go_loopw [5] (fun i wr => ∃ k : Nat, k ≤ n ∧ i = .int .i64 k ∧ Below w.heap.size w wr ∧ ∀ j, j < n → wr.cell? ⟨w.heap.size, j, none⟩ = some (.int .u8 (f j))) (fun i _ => n - (intOf i).toNat)
  case atStart => exact ⟨0, Nat.zero_le _, rfl, hbel, hnew⟩
  case round =>
    obtain ⟨k, hk, rfl, hbr, hnr⟩ := hrel
    clear hnew hbel hc2
    by_cases hlt : k < n
    · have q1 : wr.cell? ⟨b, off + k, none⟩ = some (.int .u8 (f k)) := (hbr.cell (p := ⟨b, off + k, none⟩) hblt).trans (hc k hlt)
      have q2 := hnr k hlt
      have q3 : (f k != f k) = false := by simp
      have q4 : (k : Int) < (n : Int) := by omega
      go_wp2
      go_quiet (fail)
      go_wp2
      go_roundw
      case rel => exact ⟨k + 1, by omega, by go_num, hbr.trans ⟨rfl, rfl, rfl, Nat.le_refl _, fun _ _ => rfl⟩, hnr⟩
      case measure => simp [intOf]; omega
    · go_wp2
      go_ret
      exact ⟨rfl, hbr⟩

set_option maxHeartbeats 400000 in
theorem walk_none (a0 : Option Addr) (cap0 : Nat) (w : World) :
    Calls Yba.prog 3 #[.slice a0 0 cap0] w fun e w' => e = .returned (.bool true) ∧ Below w.heap.size w w' := by
  obtain ⟨i0, hi, hz0, hz1, hz2⟩ := info_parts info5
  go_enter Yba.func3, Yba.ntmps3
  go_wp2_with (at_make; refine wpList_make_full _ rfl _ _ 22 rfl w.heap.size 5 i0 (.int .u8 0) 1 Yba.underlying22 hi hz0 hz1 _ _ _ _ 0 rfl rfl (by first | rfl | omega) (by first | rfl | omega) (by rw [hz2]; omega) (by unfold maxLen; omega) (Nat.le_refl _) ?_; intro w1 hown hgrow; have hrun := run_copy_none (P := Yba.prog) w1 22 22 3 5 (some ⟨w.heap.size, 0, none⟩) a0 0 0 0 cap0 Yba.underlying22 (by kernel_rfl) rfl; clear hown)
  refine (zeros_nil a0 cap0 _).mono ?_
  rintro e w3 ⟨rfl, rfl⟩
  clear hrun
  go_wp2_with fail
  refine (model_nil a0 cap0 _).mono ?_
  rintro e w4 ⟨rfl, rfl⟩
  go_wp2
  refine wp_loop_rounds 1 ?_
  rw [rounds_succ]
  go_wp2
  go_ret
  exact ⟨rfl, (Below.refl _ _).grown hgrow (Nat.le_refl _) (fun k hk => by cases hk)⟩

theorem walk (a0 : Option Addr) (len0 cap0 : Nat) (z0 : List Int) (w : World) (w0 : IsRow .u8 w a0 len0 cap0 z0) :
    Calls Yba.prog 3 #[.slice a0 len0 cap0] w fun e w' => e = .returned (.bool true) ∧ Below w.heap.size w w' := by
  by_cases hbig : 4096 < len0
  · exact walk_big a0 len0 cap0 w hbig
  by_cases h0 : len0 = 0
  · subst h0; exact walk_none a0 cap0 w
  rcases w0 with ⟨_, h, _⟩ | ⟨x, rfl, hl, hm, hz, hcell, _⟩
  · exact absurd h h0
  obtain ⟨b, off, rfl, hc⟩ := ints_at hcell (by omega)
  exact walk_row b off len0 cap0 (fun j => z0.getD j 0) w (by omega) (by omega) (fun j hj => hc j (by omega))

/-! ### THE ROW's STEP: WRITTEN OUT: LEAVE IT -/
set_option maxRecDepth 100000 in
theorem lifted (os : Os) (started : os.Started) (H : Type) (enc : TypeId × Value → H) :
    ReturnsInHanded {} Yba.checked os 3 .any (Rows.lawS4093CModelSpec.pre6 enc Yba.prog Yba.f3 Rows.lawS4093CModelRow.domain false) (Rows.lawS4093CModelSpec.post enc Yba.prog Yba.f3 false true false false) := by
  refine returnsInHanded_of_change (C := Yba.checked) own started (by kernel_rfl) Yba.func3
    (ChangeSpec.witness6 (enc := enc) (C := Yba.checked) false ⟨#[], #[.slice none 0 0], []⟩ 8 (by kernel_rfl) (by kernel_rfl) (by kernel_rfl) (by kernel_rfl)) ?_
  intro W base args ds gs before hval0 hW hcnd _
  have hval : ∀ (j : Nat) t v, Yba.f3.params[j]? = some t → args[j]? = some v → Value.okWide Yba.prog W .any base t v := hval0
  have hW' := hW
  obtain ⟨p, q, hA0, hV, rfl, hfz, hnd⟩ := hW
  have hA : DataW.TrodAll enc Yba.prog W 0 (fun _ => true) true Yba.f3.params.toList args.toList ds p := hA0
  rw [Yba.params3] at hA hval
  obtain ⟨v0, vs0, d0, ds0, p0, q0, hargs, rfl, rfl, h0, r0⟩ := trodAll_cons hA
  obtain ⟨rfl, rfl, rfl⟩ := trodAll_nil r0
  obtain rfl : args = #[v0] := by cases args; simp_all
  obtain ⟨rfl, rfl⟩ := trodVars_none hV
  obtain ⟨a0, len0, cap0, rfl⟩ := okWide_slice Yba.underlying22 (hval 0 22 v0 rfl rfl)
  have k0 := h0
  have lt0 : ∀ x ∈ p0, x.block < W.heap.size := by obtain ⟨m, hm⟩ := k0; exact DataW.trod_lt m _ _ _ hm
  obtain ⟨z0, w0⟩ : ∃ zs, IsRow .u8 W a0 len0 cap0 zs := by
    obtain ⟨fuel, hf⟩ := h0
    rcases open_ints Yba.underlying22 Yba.underlying5 (by kernel_rfl) hf with ⟨hcs, _⟩ | ⟨x, l, c, zs, hcs, _, hl, hm, hz, _, hcell, hwz⟩
    · simp [Value.cells] at hcs
      obtain ⟨rfl, rfl, rfl⟩ := hcs
      exact ⟨[], .inl ⟨rfl, rfl, rfl, rfl⟩⟩
    · simp [Value.cells] at hcs
      obtain ⟨rfl, rfl, rfl⟩ := hcs
      exact ⟨zs, .inr ⟨_, rfl, hl, hm, by simpa using hz, hcell, hwz⟩⟩
  clear hA0 hval0
  refine (walk a0 len0 cap0 z0 W w0).mono fun e W' ⟨he, bel⟩ => ?_
  subst he
  exact ⟨_, rfl, _, _, _, [], _, [], hW', trodAll_mk1 (shut_bool Yba.underlying4 _), (trodAll_cons_mk (Below.trod laidOut (by kernel_rfl) (of_decide_eq_true (by kernel_rfl)) k0 bel lt0) trodAll_mk0), rfl, bel.frame _, fun h => by cases h⟩

theorem over : Rows.lawS4093CModelRow.holds Yba.pinned (OpenSpec.ofChange Rows.lawS4093CModelSpec) :=
  OpenClaim.holds_of_wide 3 Yba.f3 rfl rfl rfl rfl rfl rfl rfl ⟨rfl, rfl, rfl, rfl, rfl⟩ rfl rfl rfl rfl rfl (by kernel_rfl) Yba.func3 (by kernel_rfl)
    (of_decide_eq_true (by kernel_rfl)) (by unfold Func.isWrapper; first | (rw [if_pos (by decide +kernel)]; kernel_rfl) | (rw [if_neg (by decide +kernel)]; exact ⟨rfl, rfl⟩))
    (fun os started H enc _ => lifted os started H enc)

/-- ████ THE STATEMENT ████ -/
theorem proved : Rows.LawS4093CModelSaid := over
end Go.Proofs.Ybulkcfsy.lawS4093CModel
namespace Go.Proofs.Ybulkcfsy
theorem lawS4093CModel_proved : Rows.LawS4093CModelSaid := lawS4093CModel.proved
end Go.Proofs.Ybulkcfsy
