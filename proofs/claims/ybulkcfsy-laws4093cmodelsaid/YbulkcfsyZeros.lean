import Derived.Test.YbulkcfsyRows
import Derived.WalkKit
import Derived.ProofKit
import Derived.WalkSpells
namespace Go.Proofs.Ybulkcfsy
open Go.ChangeShapes Go.WideShapes Go.ChangeAt Go.RowKit

/-- All of the first n numbers are zero. -/
def zB (f : Nat → Int) (n : Nat) : Bool := (List.range n).all fun j => f j == 0
theorem zB_iff (f : Nat → Int) (n : Nat) : zB f n = true ↔ ∀ j, j < n → f j = 0 := by
  simp [zB]
theorem zB_false (f : Nat → Int) (n k : Nat) (hk : k < n) (h : ¬ f k = 0) : zB f n = false := by
  rw [← Bool.not_eq_true, zB_iff]
  exact fun h' => h (h' k hk)
theorem ret_bool {a b : Bool} (h : a = b) : Ending.returned (.bool a) = .returned (.bool b) := by rw [h]

set_option maxHeartbeats 400000 in
theorem zeros_cells (b off len cap : Nat) (f : Nat → Int) (w : World) (hlen : len ≤ 9223372036854775807)
    (hc : ∀ j, j < len → w.cell? ⟨b, off + j, none⟩ = some (.int .u8 (f j))) :
    Calls Yba.prog 5 #[.slice (some ⟨b, off, none⟩) len cap] w fun e w' => e = .returned (.bool (zB f len)) ∧ w' = w := by
  go_enter Yba.func5, Yba.ntmps5
  go_wp2
  go_loop [7] (fun i => ∃ k : Nat, k ≤ len ∧ i = .int .i64 k ∧ ∀ j, j < k → f j = 0) (fun i => len - (intOf i).toNat)
  case atStart => exact ⟨0, Nat.zero_le _, rfl, fun j hj => by omega⟩
  case round =>
    obtain ⟨k, hk, rfl, hz⟩ := hrel
    have HZ : Hid (∀ j, j < k → f j = 0) := hz
    clear hz
    by_cases hlt : k < len
    · have hcell := hc k hlt
      by_cases h0 : f k = 0
      · have hb : (f k != 0) = false := by simp [h0]
        have H0 : Hid (f k = 0) := h0
        clear h0
        go_wp2
        go_round
        case rel => 
          refine ⟨k + 1, by omega, by go_num, fun j hj => ?_⟩
          by_cases hjk : j = k
          · rw [hjk]; exact H0.out
          · exact HZ.out j (by omega)
        case measure => simp [intOf]; omega
      · have hb : (f k != 0) = true := by simp [h0]
        have HF : Hid (zB f len = false) := zB_false f len k hlt h0
        go_wp2
        go_ret
        exact ⟨ret_bool HF.out.symm, rfl⟩
    · go_wp2
      go_ret
      exact ⟨ret_bool ((zB_iff f len).2 (fun j hj => HZ.out j (by omega))).symm, rfl⟩

theorem zeros_nil (a : Option Addr) (cap : Nat) (w : World) :
    Calls Yba.prog 5 #[.slice a 0 cap] w fun e w' => e = .returned (.bool true) ∧ w' = w := by
  go_enter Yba.func5, Yba.ntmps5
  go_wp2
  refine wp_loop_rounds 1 ?_
  rw [rounds_succ]
  go_wp2
  go_ret
  exact ⟨rfl, rfl⟩
end Go.Proofs.Ybulkcfsy
