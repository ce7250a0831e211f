import Derived.Test.YbulkcfriLeafPtt
import Derived.Test.YbulkcfriLeafPtf
import Derived.Test.YbulkcfriLeafPft
import Derived.Test.YbulkcfriLeafPff
import Derived.Test.YbulkcfriLeafZtt
import Derived.Test.YbulkcfriLeafZtf
import Derived.Test.YbulkcfriLeafZft
import Derived.Test.YbulkcfriLeafZff
namespace Go.Proofs.Ybulkcfri
open Go.ChangeShapes Go.WideShapes Go.ChangeAt Go.RowKit Go.MuLone
theorem law4_walk (a0 a1 : ByteArray) (up p : Int) (hup : (Lit.int .u64 up).wf = true) (hp : (Lit.int .u64 p).wf = true) (ad4 : Option Addr) (L c4 : Nat) (ad5 : Option Addr) (Lm c5 : Nat) (xs : Nat → Int) (bs : Nat → Bool) (pre had : Bool) (prior : Nat) (hpr : prior < 256) (w : World) (h4 : IntsAt w ad4 L xs) (h5 : BoolsAt w ad5 Lm bs) (hL : L ≤ 1024) (hLm : Lm ≤ 1024) :
    Calls Yba.prog 4 #[.string a0, .string a1, .int .u64 up, .int .u64 p, .slice ad4 L c4, .slice ad5 Lm c5, .bool pre, .bool had, .int .u8 prior] w fun e w' => e = .returned (.bool true) ∧ Below w.heap.size w w' := by
  by_cases hLp : 0 < L
  · cases pre <;> cases had
    · exact law4_Pff a0 a1 up p hup hp ad4 L c4 ad5 Lm c5 xs bs prior hpr w h4 h5 hL hLm hLp
    · exact law4_Pft a0 a1 up p hup hp ad4 L c4 ad5 Lm c5 xs bs prior hpr w h4 h5 hL hLm hLp
    · exact law4_Ptf a0 a1 up p hup hp ad4 L c4 ad5 Lm c5 xs bs prior hpr w h4 h5 hL hLm hLp
    · exact law4_Ptt a0 a1 up p hup hp ad4 L c4 ad5 Lm c5 xs bs prior hpr w h4 h5 hL hLm hLp
  · have hLz : L = 0 := by omega
    cases pre <;> cases had
    · exact law4_Zff a0 a1 up p hup hp ad4 L c4 ad5 Lm c5 xs bs prior hpr w h4 h5 hL hLm hLz
    · exact law4_Zft a0 a1 up p hup hp ad4 L c4 ad5 Lm c5 xs bs prior hpr w h4 h5 hL hLm hLz
    · exact law4_Ztf a0 a1 up p hup hp ad4 L c4 ad5 Lm c5 xs bs prior hpr w h4 h5 hL hLm hLz
    · exact law4_Ztt a0 a1 up p hup hp ad4 L c4 ad5 Lm c5 xs bs prior hpr w h4 h5 hL hLm hLz
end Go.Proofs.Ybulkcfri
