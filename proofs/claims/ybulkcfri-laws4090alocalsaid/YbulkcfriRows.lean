/-
  No cell of these rows narrows 'for every input' (looked for: loops, veiled, ifaces, maps, wideKeys, modest, calm, conditions, laid).
  DERIVED. THE GIVEN ROWS OF THIS SEAT. 4 by the template 'for every input the law returns true; each argument reads behind the call as it read before'; 0 by the template 'total and deterministic' (their statements: YbulkcfriTotals.lean).
  GIVEN WITH THE SEED: the statements are not yours to turn. If you find one false, say at which input.
  Laid BY PROGRAM, IN A SANDBOX (cutbox-rows.mjs): the forced cells as the released guide's own fill.sh prints them over the translation 755ae3a6507057c3… (all of the seat's roots in one cut). By AI agents, Wed Nov 11 2026. No macro, syntax, notation, axiom, sorry.
-/
import Derived.Test.YbulkcfriChecked
import GoSem.Claim
import GoSem.ClaimJoined
import GoSem.ClaimMapViews
import Derived.JoinedTies
import Derived.KernelRfl
namespace Go.Proofs.Ybulkcfri
/- THE CELL 'sum', in the pinned program and in every row, IS THE sha256 OF THE DUMP (.gsa) THAT YbulkcfriProg.lean LOADS. Nothing in Lean hashes anything: it is a label: what it is worth is what the hold of that sum in a sandbox is worth. -/
noncomputable def Yba.pinned : Pinned := { name := "ybulkcfri", sum := "755ae3a6507057c3ae5430b4dd2b312ad6d5ce221c74f69cf4294a2589092762", checked := Yba.checked }
namespace Rows
def none {H : Type} : Left H := { results := [], args := [] }

/-- 'detect.LawS4090ARemote': WHATEVER THE INPUT: true; the input reads as it did. -/
def lawS4090ARemoteSpec : ChangeSpec := { name := "lawS4090ARemote", fn := fun _ => fun
  | [d1, d2, d3, d4, d5, d6, d7, d8, d9] => { results := [.lit (.bool true)], args := [d1, d2, d3, d4, d5, d6, d7, d8, d9] }
  | _ => none }
def lawS4090ARemoteRow : OpenClaim := { program := "ybulkcfri", sum := "755ae3a6507057c3ae5430b4dd2b312ad6d5ce221c74f69cf4294a2589092762", func := "example.com/edgechase/edgechase/internal/detect.LawS4090ARemote", spec := "lawS4090ARemote", unfollowed := true, recurses := true, plainKeys := false, apart := false }
def LawS4090ARemoteSaid : Prop := lawS4090ARemoteRow.holds Yba.pinned (OpenSpec.ofChange lawS4090ARemoteSpec)

/-- ITS FALSE NEIGHBOUR: 'it returns false'. Refute it at one input. -/
def lawS4090ARemoteWrong : ChangeSpec := { name := "lawS4090ARemote", fn := fun _ => fun
  | [d1, d2, d3, d4, d5, d6, d7, d8, d9] => { results := [.lit (.bool false)], args := [d1, d2, d3, d4, d5, d6, d7, d8, d9] }
  | _ => none }
def LawS4090ARemoteWrongFalsely : Prop := lawS4090ARemoteRow.holds Yba.pinned (OpenSpec.ofChange lawS4090ARemoteWrong)

/-- 'detect.LawS4090ALocal': WHATEVER THE INPUT: true; the input reads as it did. -/
def lawS4090ALocalSpec : ChangeSpec := { name := "lawS4090ALocal", fn := fun _ => fun
  | [d1, d2, d3, d4, d5, d6, d7, d8, d9] => { results := [.lit (.bool true)], args := [d1, d2, d3, d4, d5, d6, d7, d8, d9] }
  | _ => none }
def lawS4090ALocalRow : OpenClaim := { program := "ybulkcfri", sum := "755ae3a6507057c3ae5430b4dd2b312ad6d5ce221c74f69cf4294a2589092762", func := "example.com/edgechase/edgechase/internal/detect.LawS4090ALocal", spec := "lawS4090ALocal", unfollowed := true, recurses := true, plainKeys := false, apart := false }
def LawS4090ALocalSaid : Prop := lawS4090ALocalRow.holds Yba.pinned (OpenSpec.ofChange lawS4090ALocalSpec)

/-- ITS FALSE NEIGHBOUR: 'it returns false'. Refute it at one input. -/
def lawS4090ALocalWrong : ChangeSpec := { name := "lawS4090ALocal", fn := fun _ => fun
  | [d1, d2, d3, d4, d5, d6, d7, d8, d9] => { results := [.lit (.bool false)], args := [d1, d2, d3, d4, d5, d6, d7, d8, d9] }
  | _ => none }
def LawS4090ALocalWrongFalsely : Prop := lawS4090ALocalRow.holds Yba.pinned (OpenSpec.ofChange lawS4090ALocalWrong)

/-- 'edgechase.LawS4090BAppendHeld': WHATEVER THE INPUT: true; the input reads as it did. -/
def lawS4090BAppendHeldSpec : ChangeSpec := { name := "lawS4090BAppendHeld", fn := fun _ => fun
  | [d1, d2, d3] => { results := [.lit (.bool true)], args := [d1, d2, d3] }
  | _ => none }
def lawS4090BAppendHeldRow : OpenClaim := { program := "ybulkcfri", sum := "755ae3a6507057c3ae5430b4dd2b312ad6d5ce221c74f69cf4294a2589092762", func := "example.com/edgechase/edgechase.LawS4090BAppendHeld", spec := "lawS4090BAppendHeld", inPlace := ["(*internal/sync.Mutex).Lock", "internal/race.Disable", "sync/atomic.CompareAndSwapInt32", "internal/race.Enable", "internal/race.Acquire", "(*internal/sync.Mutex).lockSlow", "internal/sync.runtime_canSpin", "internal/sync.runtime_doSpin", "internal/sync.throw", "internal/sync.runtime_nanotime", "internal/sync.runtime_SemacquireMutex", "sync/atomic.AddInt32", "(*internal/sync.Mutex).Unlock", "internal/race.ReleaseMerge", "(*internal/sync.Mutex).unlockSlow", "internal/sync.fatal", "internal/sync.runtime_Semrelease"], plainKeys := false, apart := false }
def LawS4090BAppendHeldSaid : Prop := lawS4090BAppendHeldRow.holds Yba.pinned (OpenSpec.ofChange lawS4090BAppendHeldSpec)

/-- ITS FALSE NEIGHBOUR: 'it returns false'. Refute it at one input. -/
def lawS4090BAppendHeldWrong : ChangeSpec := { name := "lawS4090BAppendHeld", fn := fun _ => fun
  | [d1, d2, d3] => { results := [.lit (.bool false)], args := [d1, d2, d3] }
  | _ => none }
def LawS4090BAppendHeldWrongFalsely : Prop := lawS4090BAppendHeldRow.holds Yba.pinned (OpenSpec.ofChange lawS4090BAppendHeldWrong)

/-- 'edgechase.LawS4090BModel': WHATEVER THE INPUT: true; the input reads as it did. -/
def lawS4090BModelSpec : ChangeSpec := { name := "lawS4090BModel", fn := fun _ => fun
  | [d] => { results := [.lit (.bool true)], args := [d] }
  | _ => none }
def lawS4090BModelRow : OpenClaim := { program := "ybulkcfri", sum := "755ae3a6507057c3ae5430b4dd2b312ad6d5ce221c74f69cf4294a2589092762", func := "example.com/edgechase/edgechase.LawS4090BModel", spec := "lawS4090BModel", inPlace := ["(*internal/sync.Mutex).Lock", "internal/race.Disable", "sync/atomic.CompareAndSwapInt32", "internal/race.Enable", "internal/race.Acquire", "(*internal/sync.Mutex).lockSlow", "internal/sync.runtime_canSpin", "internal/sync.runtime_doSpin", "internal/sync.throw", "internal/sync.runtime_nanotime", "internal/sync.runtime_SemacquireMutex", "sync/atomic.AddInt32", "(*internal/sync.Mutex).Unlock", "internal/race.ReleaseMerge", "(*internal/sync.Mutex).unlockSlow", "internal/sync.fatal", "internal/sync.runtime_Semrelease"], plainKeys := false, apart := false }
def LawS4090BModelSaid : Prop := lawS4090BModelRow.holds Yba.pinned (OpenSpec.ofChange lawS4090BModelSpec)

/-- ITS FALSE NEIGHBOUR: 'it returns false'. Refute it at one input. -/
def lawS4090BModelWrong : ChangeSpec := { name := "lawS4090BModel", fn := fun _ => fun
  | [d] => { results := [.lit (.bool false)], args := [d] }
  | _ => none }
def LawS4090BModelWrongFalsely : Prop := lawS4090BModelRow.holds Yba.pinned (OpenSpec.ofChange lawS4090BModelWrong)

end Rows
end Go.Proofs.Ybulkcfri
