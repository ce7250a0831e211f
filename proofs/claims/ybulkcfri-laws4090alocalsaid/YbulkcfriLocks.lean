import Derived.Test.YbulkcfriRows
import Derived.Conc.RwLib
import Derived.Conc.MuData
import Derived.KernelRfl
/-! The numbers under which this program holds the library's mutex (after the worked StatsLocks.lean). -/
namespace Go.Proofs.Ybulkcfri
abbrev muLink : Go.Conc.Locks.MuLink := { lock := 21, unlock := 22, ilock := 30, iunlock := 31, lockSlow := 39, unlockSlow := 42, disable := 35, enable := 37, acquire := 38, relMerge := 40, cas32 := 36, add32 := 41, tMutex := 92, tIMutex := 90, tPMutex := 139, tPIMutex := 143, tPI32 := 145, tUP := 147, tNoCopy := 87, tU32 := 88 }
theorem muLib : Go.Conc.Locks.MuLib Yba.prog muLink :=
  ⟨Yba.func21, Yba.func22, Yba.func30, Yba.func31, Yba.func35, Yba.func37, Yba.func38, Yba.func40, Yba.func36, Yba.func41, Yba.underlying90, Yba.runUnderlying90, Yba.sizeOf90, Yba.isAgg90, Yba.zeroValue90, Yba.underlying92, Yba.runUnderlying92, Yba.sizeOf92, Yba.isAgg92, Yba.zeroValue92, Yba.underlying139, Yba.runUnderlying139, Yba.sizeOf139, Yba.isAgg139, Yba.zeroValue139, Yba.underlying143, Yba.runUnderlying143, Yba.sizeOf143, Yba.isAgg143, Yba.zeroValue143, Yba.underlying145, Yba.runUnderlying145, Yba.sizeOf145, Yba.isAgg145, Yba.zeroValue145, Yba.underlying147, Yba.runUnderlying147, Yba.sizeOf147, Yba.isAgg147, Yba.zeroValue147, Yba.underlying87, Yba.runUnderlying87, Yba.sizeOf87, Yba.isAgg87, Yba.zeroValue87, Yba.underlying21, Yba.runUnderlying21, Yba.sizeOf21, Yba.isAgg21, Yba.zeroValue21, (by kernel_rfl)⟩
end Go.Proofs.Ybulkcfri
