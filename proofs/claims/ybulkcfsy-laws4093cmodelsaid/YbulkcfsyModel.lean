import Derived.Test.YbulkcfsyZeros
namespace Go.Proofs.Ybulkcfsy
open Go.ChangeShapes Go.WideShapes Go.ChangeAt Go.RowKit

/-- How many of the first n numbers are not zero. -/
def nz (f : Nat → Int) : Nat → Nat
  | 0 => 0
  | k + 1 => nz f k + if f k = 0 then 0 else 1
theorem nz_le (f : Nat → Int) (k : Nat) : nz f k ≤ k := by
  induction k with
  | zero => exact Nat.le_refl _
  | succ k ih => simp only [nz]; split <;> omega
theorem nz_zB (f : Nat → Int) (k : Nat) : (((nz f k : Nat) : Int) == 0) = zB f k := by
  have h : nz f k = 0 ↔ ∀ j, j < k → f j = 0 := by
    induction k with
    | zero => simp [nz]
    | succ k ih =>
      simp only [nz]
      constructor
      · intro h j hj
        by_cases hk : f k = 0
        · simp [hk] at h
          by_cases hjk : j = k
          · rw [hjk]; exact hk
          · exact ih.1 h j (by omega)
        · simp [hk] at h
      · intro h
        have hk := h k (by omega)
        simp [hk]
        exact ih.2 fun j hj => h j (by omega)
  rw [Bool.eq_iff_iff, zB_iff, beq_iff_eq, ← h]
  omega

set_option maxHeartbeats 400000 in
theorem model_cells (b off len cap : Nat) (f : Nat → Int) (w : World) (hlen : len ≤ 9223372036854775807)
    (hc : ∀ j, j < len → w.cell? ⟨b, off + j, none⟩ = some (.int .u8 (f j))) :
    Calls Yba.prog 6 #[.slice (some ⟨b, off, none⟩) len cap] w fun e w' => e = .returned (.bool (zB f len)) ∧ w' = w := by
  go_enter Yba.func6, Yba.ntmps6
  go_wp2
  go_loop [3, 4] (fun n i => ∃ k : Nat, k ≤ len ∧ i = .int .i64 k ∧ n = .int .i64 (nz f k)) (fun _ i => len - (intOf i).toNat)
  case atStart => exact ⟨0, Nat.zero_le _, rfl, rfl⟩
  case round =>
    obtain ⟨k, hk, rfl, rfl⟩ := hrel
    have hnz := nz_le f k
    by_cases hlt : k < len
    · have hcell := hc k hlt
      by_cases h0 : f k = 0
      · have hb : (f k != 0) = false := by simp [h0]
        have H0 : Hid (nz f (k + 1) = nz f k) := by show _ = _; simp [nz, h0]
        clear h0
        go_wp2
        go_round
        case rel => exact ⟨k + 1, by omega, by go_num, by rw [H0.out]⟩
        case measure => simp [intOf]; omega
      · have hb : (f k != 0) = true := by simp [h0]
        have H0 : Hid (nz f (k + 1) = nz f k + 1) := by show _ = _; simp [nz, h0]
        clear h0
        go_wp2
        go_round
        case rel => exact ⟨k + 1, by omega, by go_num, by rw [H0.out]; go_num⟩
        case measure => simp [intOf]; omega
    · have HK : Hid (k = len) := by show _ = _; omega
      have HF : Hid ((((nz f k : Nat) : Int) == 0) = zB f len) := by show _ = _; rw [nz_zB, HK.out]
      go_wp2
      go_ret
      exact ⟨ret_bool HF.out, rfl⟩

theorem model_nil (a : Option Addr) (cap : Nat) (w : World) :
    Calls Yba.prog 6 #[.slice a 0 cap] w fun e w' => e = .returned (.bool true) ∧ w' = w := by
  go_enter Yba.func6, Yba.ntmps6
  go_wp2
  refine wp_loop_rounds 1 ?_
  rw [rounds_succ]
  go_wp2
  go_ret
  exact ⟨rfl, rfl⟩
end Go.Proofs.Ybulkcfsy
