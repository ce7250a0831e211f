import Derived.Test.YbulkcfriShows
import Derived.Laws.Pointers
import Derived.LaidEqlPtr
namespace Go.Proofs.Ybulkcfri
open Go.ChangeShapes Go.WideShapes Go.ChangeAt Go.RowKit Go.MuLone
/-- n times the walk at block W. -/
def reps (W n : Nat) : List Value := List.replicate n (.pointer (some ⟨W, 0, none⟩))
theorem eql27 (a : Addr) (w : World) : (binOp .eql 27 (.pointer (some a)) (.pointer (some a))).run Yba.prog w = .ok (.bool true) w := by
  obtain ⟨j, hj⟩ := Option.isSome_iff_exists.1 (show (Yba.prog.info? 37).isSome = true by kernel_rfl)
  exact run_eql_ptr_same w a Yba.underlying27 hj
theorem index_none (a c W : Nat) (ad : Option Addr) (w : World) :
    Calls Yba.prog 34 #[.slice ad 0 c, .pointer (some ⟨W, a, none⟩)] w fun e w' => e = .returned (.int .i64 (-1)) ∧ w' = w := by
  go_enter Yba.func34, Yba.ntmps34
  go_wp2
  go_loopg [8] 0 (fun _gk p wr => p = .int .i64 0 ∧ wr = w)
  case atStart => exact ⟨rfl, rfl⟩
  case round =>
    obtain ⟨rfl, rfl⟩ := hrel
    go_wp2
    go_ret
    exact ⟨rfl, rfl⟩
set_option maxRecDepth 100000 in
theorem index_some (g n c W : Nat) (hn : 0 < n) (w : World) (hc : w.cell? ⟨g, 0, none⟩ = some (.pointer (some ⟨W, 0, none⟩))) :
    Calls Yba.prog 34 #[.slice (some ⟨g, 0, none⟩) n c, .pointer (some ⟨W, 0, none⟩)] w fun e w' => e = .returned (.int .i64 0) ∧ w' = w := by
  have hn1 : (0 : Int) < n := by omega
  have hq := eql27 ⟨W, 0, none⟩
  go_enter Yba.func34, Yba.ntmps34
  go_wp2
  go_loopg [8] 0 (fun _gk p wr => p = .int .i64 0 ∧ wr = w)
  case atStart => exact ⟨rfl, rfl⟩
  case round =>
    obtain ⟨rfl, rfl⟩ := hrel
    go_wp2
    go_ret
    exact ⟨rfl, rfl⟩
theorem contains_reps (B W n : Nat) (v : Value) (w : World) (ho : w.ownsRow B 27 1 v n (reps W n)) :
    Calls Yba.prog 29 #[v, .pointer (some ⟨W, 0, none⟩)] w fun e w' => e = .returned (.bool (decide (0 < n))) ∧ w' = w := by
  by_cases hn : 0 < n
  · rcases ho.2 with ⟨_, h0⟩ | ⟨g, cap, cur, rfl, hb, hh, hcap, _, hsz, htk⟩
    · omega
    have hc : w.cell? ⟨g, 0, none⟩ = some (.pointer (some ⟨W, 0, none⟩)) := by
      refine cell_of hh ?_
      have h1 : (reps W n)[0]? = some (.pointer (some ⟨W, 0, none⟩)) := by unfold reps; rw [List.getElem?_replicate, if_pos hn]
      rw [← htk, List.getElem?_take_of_lt (by omega)] at h1
      simpa using h1
    have hd : decide (0 < n) = true := by simpa using hn
    rw [hd]
    go_enter Yba.func29, Yba.ntmps29
    go_wp2_with fail
    refine (index_some g n cap W hn w hc).mono ?_
    rintro e w' ⟨rfl, rfl⟩
    go_wp2
    go_ret
    exact ⟨rfl, rfl⟩
  · have h0 : n = 0 := by omega
    subst h0
    obtain ⟨a, c, rfl⟩ := own_slice ho
    go_enter Yba.func29, Yba.ntmps29
    go_wp2_with fail
    refine (index_none 0 c W a w).mono ?_
    rintro e w' ⟨rfl, rfl⟩
    go_wp2
    go_ret
    exact ⟨rfl, rfl⟩
theorem indexFunc_nil (c : Nat) (fn : Value) (w : World) :
    Calls Yba.prog 43 #[.slice none 0 c, fn] w fun e w' => e = .returned (.int .i64 (-1)) ∧ w' = w := by
  go_enter Yba.func43, Yba.ntmps43
  go_wp2
  go_loopg [8] 0 (fun _gk p wr => p = .int .i64 0 ∧ wr = w)
  case atStart => exact ⟨rfl, rfl⟩
  case round =>
    obtain ⟨rfl, rfl⟩ := hrel
    go_wp2
    go_ret
    exact ⟨rfl, rfl⟩
theorem deleteFunc_nil (c : Nat) (fn : Value) (w : World) :
    Calls Yba.prog 32 #[.slice none 0 c, fn] w fun e w' => e = .returned (.slice none 0 c) ∧ w' = w := by
  go_enter Yba.func32, Yba.ntmps32
  go_wp2_with fail
  refine (indexFunc_nil c fn w).mono ?_
  rintro e w' ⟨rfl, rfl⟩
  go_wp2
  go_ret
  exact ⟨rfl, rfl⟩
end Go.Proofs.Ybulkcfri
