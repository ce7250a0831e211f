/-
  No cell of these rows narrows 'for every input' (looked for: loops, veiled, ifaces, maps, wideKeys, modest, calm, conditions, laid).
  DERIVED. THE GIVEN ROWS OF THIS SEAT. 2 by the template 'for every input the law returns true; each argument reads behind the call as it read before'; 0 by the template 'total and deterministic' (their statements: YbulkcfsyTotals.lean).
  GIVEN WITH THE SEED: the statements are not yours to turn. If you find one false, say at which input.
  Laid BY PROGRAM, IN A SANDBOX (cutbox-rows.mjs): the forced cells as the released guide's own fill.sh prints them over the translation 5053319496ac9e6d… (all of the seat's roots in one cut). By AI agents, Wed Nov 11 2026. No macro, syntax, notation, axiom, sorry.
-/
import Derived.Test.YbulkcfsyChecked
import GoSem.Claim
import GoSem.ClaimJoined
import GoSem.ClaimMapViews
import Derived.JoinedTies
import Derived.KernelRfl
namespace Go.Proofs.Ybulkcfsy
/- THE CELL 'sum', in the pinned program and in every row, IS THE sha256 OF THE DUMP (.gsa) THAT YbulkcfsyProg.lean LOADS. Nothing in Lean hashes anything: it is a label: what it is worth is what the hold of that sum in a sandbox is worth. -/
noncomputable def Yba.pinned : Pinned := { name := "ybulkcfsy", sum := "5053319496ac9e6d160448b5b329f16f94c3a83b04a029107369616b7822e516", checked := Yba.checked }
namespace Rows
def none {H : Type} : Left H := { results := [], args := [] }

/-- 'txnlog.LawS4093CModel': WHATEVER THE INPUT: true; the input reads as it did. -/
def lawS4093CModelSpec : ChangeSpec := { name := "lawS4093CModel", fn := fun _ => fun
  | [d] => { results := [.lit (.bool true)], args := [d] }
  | _ => none }
def lawS4093CModelRow : OpenClaim := { program := "ybulkcfsy", sum := "5053319496ac9e6d160448b5b329f16f94c3a83b04a029107369616b7822e516", func := "example.com/rookery/rookery/internal/txnlog.LawS4093CModel", spec := "lawS4093CModel", apart := false }
def LawS4093CModelSaid : Prop := lawS4093CModelRow.holds Yba.pinned (OpenSpec.ofChange lawS4093CModelSpec)

/-- ITS FALSE NEIGHBOUR: 'it returns false'. Refute it at one input. -/
def lawS4093CModelWrong : ChangeSpec := { name := "lawS4093CModel", fn := fun _ => fun
  | [d] => { results := [.lit (.bool false)], args := [d] }
  | _ => none }
def LawS4093CModelWrongFalsely : Prop := lawS4093CModelRow.holds Yba.pinned (OpenSpec.ofChange lawS4093CModelWrong)

/-- 'txnlog.LawS4093CPlant': WHATEVER THE INPUT: true; the input reads as it did. -/
def lawS4093CPlantSpec : ChangeSpec := { name := "lawS4093CPlant", fn := fun _ => fun
  | [d1, d2, d3] => { results := [.lit (.bool true)], args := [d1, d2, d3] }
  | _ => none }
def lawS4093CPlantRow : OpenClaim := { program := "ybulkcfsy", sum := "5053319496ac9e6d160448b5b329f16f94c3a83b04a029107369616b7822e516", func := "example.com/rookery/rookery/internal/txnlog.LawS4093CPlant", spec := "lawS4093CPlant", apart := false }
def LawS4093CPlantSaid : Prop := lawS4093CPlantRow.holds Yba.pinned (OpenSpec.ofChange lawS4093CPlantSpec)

/-- ITS FALSE NEIGHBOUR: 'it returns false'. Refute it at one input. -/
def lawS4093CPlantWrong : ChangeSpec := { name := "lawS4093CPlant", fn := fun _ => fun
  | [d1, d2, d3] => { results := [.lit (.bool false)], args := [d1, d2, d3] }
  | _ => none }
def LawS4093CPlantWrongFalsely : Prop := lawS4093CPlantRow.holds Yba.pinned (OpenSpec.ofChange lawS4093CPlantWrong)

end Rows
end Go.Proofs.Ybulkcfsy
