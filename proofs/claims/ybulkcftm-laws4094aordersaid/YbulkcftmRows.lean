/-
  No cell of these rows narrows 'for every input' (looked for: loops, veiled, ifaces, maps, wideKeys, modest, calm, conditions, laid).
  DERIVED. THE GIVEN ROWS OF THIS SEAT. 2 by the template 'for every input the law returns true; each argument reads behind the call as it read before'; 0 by the template 'total and deterministic' (their statements: YbulkcftmTotals.lean).
  GIVEN WITH THE SEED: the statements are not yours to turn. If you find one false, say at which input.
  Laid BY PROGRAM, IN A SANDBOX (cutbox-rows.mjs): the forced cells as the released guide's own fill.sh prints them over the translation fa4e5aaf5da8fa4d… (all of the seat's roots in one cut). By AI agents, Wed Nov 11 2026. No macro, syntax, notation, axiom, sorry.
-/
import Derived.Test.YbulkcftmChecked
import GoSem.Claim
import GoSem.ClaimJoined
import GoSem.ClaimMapViews
import Derived.JoinedTies
import Derived.KernelRfl
namespace Go.Proofs.Ybulkcftm
/- THE CELL 'sum', in the pinned program and in every row, IS THE sha256 OF THE DUMP (.gsa) THAT YbulkcftmProg.lean LOADS. Nothing in Lean hashes anything: it is a label: what it is worth is what the hold of that sum in a sandbox is worth. -/
noncomputable def Yba.pinned : Pinned := { name := "ybulkcftm", sum := "fa4e5aaf5da8fa4dd758eaccb43f650a2d7096dca5e536d5d5528d619248320f", checked := Yba.checked }
namespace Rows
def none {H : Type} : Left H := { results := [], args := [] }

/-- 'commutant.LawS4094AOrder': WHATEVER THE INPUT: true; the input reads as it did. -/
def lawS4094AOrderSpec : ChangeSpec := { name := "lawS4094AOrder", fn := fun _ => fun
  | [d1, d2] => { results := [.lit (.bool true)], args := [d1, d2] }
  | _ => none }
def lawS4094AOrderRow : OpenClaim := { program := "ybulkcftm", sum := "fa4e5aaf5da8fa4dd758eaccb43f650a2d7096dca5e536d5d5528d619248320f", func := "example.com/commutant/commutant.LawS4094AOrder", spec := "lawS4094AOrder", unfollowed := true, recurses := true, plainKeys := false, apart := false }
def LawS4094AOrderSaid : Prop := lawS4094AOrderRow.holds Yba.pinned (OpenSpec.ofChange lawS4094AOrderSpec)

/-- ITS FALSE NEIGHBOUR: 'it returns false'. Refute it at one input. -/
def lawS4094AOrderWrong : ChangeSpec := { name := "lawS4094AOrder", fn := fun _ => fun
  | [d1, d2] => { results := [.lit (.bool false)], args := [d1, d2] }
  | _ => none }
def LawS4094AOrderWrongFalsely : Prop := lawS4094AOrderRow.holds Yba.pinned (OpenSpec.ofChange lawS4094AOrderWrong)

/-- 'commutant.LawS4094CYields': WHATEVER THE INPUT: true; the input reads as it did. -/
def lawS4094CYieldsSpec : ChangeSpec := { name := "lawS4094CYields", fn := fun _ => fun
  | [d1, d2, d3, d4, d5] => { results := [.lit (.bool true)], args := [d1, d2, d3, d4, d5] }
  | _ => none }
def lawS4094CYieldsRow : OpenClaim := { program := "ybulkcftm", sum := "fa4e5aaf5da8fa4dd758eaccb43f650a2d7096dca5e536d5d5528d619248320f", func := "example.com/commutant/commutant.LawS4094CYields", spec := "lawS4094CYields", unfollowed := true, recurses := true, plainKeys := false, apart := false }
def LawS4094CYieldsSaid : Prop := lawS4094CYieldsRow.holds Yba.pinned (OpenSpec.ofChange lawS4094CYieldsSpec)

/-- ITS FALSE NEIGHBOUR: 'it returns false'. Refute it at one input. -/
def lawS4094CYieldsWrong : ChangeSpec := { name := "lawS4094CYields", fn := fun _ => fun
  | [d1, d2, d3, d4, d5] => { results := [.lit (.bool false)], args := [d1, d2, d3, d4, d5] }
  | _ => none }
def LawS4094CYieldsWrongFalsely : Prop := lawS4094CYieldsRow.holds Yba.pinned (OpenSpec.ofChange lawS4094CYieldsWrong)

end Rows
end Go.Proofs.Ybulkcftm
