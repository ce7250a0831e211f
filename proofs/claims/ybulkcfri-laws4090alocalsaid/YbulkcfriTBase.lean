import Derived.Test.YbulkcfriEq
import Derived.Test.YbulkcfriMaps
import Derived.Test.YbulkcfriGoBase
import Derived.Test.YbulkcfriLocks
import Derived.Conc.MuLone
namespace Go.Proofs.Ybulkcfri
open Go.ChangeShapes Go.WideShapes Go.ChangeAt Go.RowKit Go.MuLone
/-- The script's three names. -/
def nm (i : Nat) : ByteArray := if i % 3 = 0 then ⟨#[97]⟩ else if i % 3 = 1 then ⟨#[98]⟩ else ⟨#[99]⟩
theorem name_any (i : Nat) (hi : i < 256) (w : World) : Calls Yba.prog 11 #[.int .u8 i] w fun e w' => e = .returned (.string (nm i)) ∧ w' = w := by
  by_cases h0 : i % 3 = 0
  · have hb : ((i : Int) % 3 == 0) = true := by simp; omega
    have hn : Hid (nm i = ⟨#[97]⟩) := by show _ = _; simp [nm, h0]
    clear h0
    go_enter Yba.func11, Yba.ntmps11
    go_wp2
    go_ret
    exact ⟨by rw [hn.out]; rfl, rfl⟩
  · have hb : ((i : Int) % 3 == 0) = false := by simp; omega
    by_cases h1 : i % 3 = 1
    · have hb1 : ((i : Int) % 3 == 1) = true := by simp; omega
      have hn : Hid (nm i = ⟨#[98]⟩) := by show _ = _; simp [nm, h1]
      clear h0 h1
      go_enter Yba.func11, Yba.ntmps11
      go_wp2
      go_ret
      exact ⟨by rw [hn.out]; rfl, rfl⟩
    · have hb1 : ((i : Int) % 3 == 1) = false := by simp; omega
      have hn : Hid (nm i = ⟨#[99]⟩) := by show _ = _; simp [nm, h0, h1]
      clear h0 h1
      go_enter Yba.func11, Yba.ntmps11
      go_wp2
      go_ret
      exact ⟨by rw [hn.out]; rfl, rfl⟩
/-- The cells of a message from a to b. -/
def msgOf (a b : ByteArray) : List Value := [.int .i64 0, .string a, .string b, .int .u64 0, .int .u64 0, .int .u64 0, .int .u64 0, .int .u64 0, .string ⟨#[]⟩, .slice none 0 0, .slice none 0 0, .bool false, .bool false]
theorem zero49 : (Yba.prog.info? 49).map (fun i => (i.zero, i.size, i.bytes)) = some (some (.agg (msgOf ⟨#[]⟩ ⟨#[]⟩).toArray), 13, 152) := by kernel_rfl
/-- The cells of a transport. -/
def tCells (mu : Int) (v : Value) (h : Nat) (hm : Value) : Array Value := #[.int .i32 0, .int .u32 0, .int .i32 mu, .int .u32 0, .map none, v, .int .i64 h, hm]
theorem zero96 : (Yba.prog.info? 96).map (fun i => (i.zero, i.size)) = some (some (.agg (tCells 0 (.slice none 0 0) 0 (.map none))), 8) := by kernel_rfl
end Go.Proofs.Ybulkcfri
