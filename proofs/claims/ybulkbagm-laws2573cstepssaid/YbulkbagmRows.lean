/-
  No cell of these rows narrows 'for every input' (looked for: loops, veiled, ifaces, maps, wideKeys, modest, calm, conditions, laid).
  DERIVED. THE GIVEN ROWS OF THIS SEAT. 3 by the template 'for every input the law returns true; each argument reads behind the call as it read before'; 0 by the template 'total and deterministic' (their statements: YbulkbagmTotals.lean).
  GIVEN WITH THE SEED: the statements are not yours to turn. If you find one false, say at which input.
  Laid BY PROGRAM, IN A SANDBOX (cutbox-rows.mjs): the forced cells as the released guide's own fill.sh prints them over the translation c4b8b850a98558fe… (all of the seat's roots in one cut). By AI agents, Wed Nov 11 2026. No macro, syntax, notation, axiom, sorry.
-/
import Derived.Test.YbulkbagmChecked
import GoSem.Claim
import GoSem.ClaimJoined
import GoSem.ClaimMapViews
import Derived.JoinedTies
import Derived.KernelRfl
namespace Go.Proofs.Ybulkbagm
/- THE CELL 'sum', in the pinned program and in every row, IS THE sha256 OF THE DUMP (.gsa) THAT YbulkbagmProg.lean LOADS. Nothing in Lean hashes anything: it is a label: what it is worth is what the hold of that sum in a sandbox is worth. -/
noncomputable def Yba.pinned : Pinned := { name := "ybulkbagm", sum := "c4b8b850a98558fe4a31ae06591ea3b604d72694d4ab03357347e921c1ad2c35", checked := Yba.checked }
namespace Rows
def none {H : Type} : Left H := { results := [], args := [] }

/-- 'placement.LawS2573BModel': WHATEVER THE INPUT: true; the input reads as it did. -/
def lawS2573BModelSpec : ChangeSpec := { name := "lawS2573BModel", fn := fun _ => fun
  | [d1, d2, d3] => { results := [.lit (.bool true)], args := [d1, d2, d3] }
  | _ => none }
def lawS2573BModelRow : OpenClaim := { program := "ybulkbagm", sum := "c4b8b850a98558fe4a31ae06591ea3b604d72694d4ab03357347e921c1ad2c35", func := "example.com/evenkeel/evenkeel/pkg/placement.LawS2573BModel", spec := "lawS2573BModel", apart := false }
def LawS2573BModelSaid : Prop := lawS2573BModelRow.holds Yba.pinned (OpenSpec.ofChange lawS2573BModelSpec)

/-- ITS FALSE NEIGHBOUR: 'it returns false'. Refute it at one input. -/
def lawS2573BModelWrong : ChangeSpec := { name := "lawS2573BModel", fn := fun _ => fun
  | [d1, d2, d3] => { results := [.lit (.bool false)], args := [d1, d2, d3] }
  | _ => none }
def LawS2573BModelWrongFalsely : Prop := lawS2573BModelRow.holds Yba.pinned (OpenSpec.ofChange lawS2573BModelWrong)

/-- 'placement.LawS2573BSaturate': WHATEVER THE INPUT: true; the input reads as it did. -/
def lawS2573BSaturateSpec : ChangeSpec := { name := "lawS2573BSaturate", fn := fun _ => fun
  | [d1, d2, d3] => { results := [.lit (.bool true)], args := [d1, d2, d3] }
  | _ => none }
def lawS2573BSaturateRow : OpenClaim := { program := "ybulkbagm", sum := "c4b8b850a98558fe4a31ae06591ea3b604d72694d4ab03357347e921c1ad2c35", func := "example.com/evenkeel/evenkeel/pkg/placement.LawS2573BSaturate", spec := "lawS2573BSaturate", apart := false }
def LawS2573BSaturateSaid : Prop := lawS2573BSaturateRow.holds Yba.pinned (OpenSpec.ofChange lawS2573BSaturateSpec)

/-- ITS FALSE NEIGHBOUR: 'it returns false'. Refute it at one input. -/
def lawS2573BSaturateWrong : ChangeSpec := { name := "lawS2573BSaturate", fn := fun _ => fun
  | [d1, d2, d3] => { results := [.lit (.bool false)], args := [d1, d2, d3] }
  | _ => none }
def LawS2573BSaturateWrongFalsely : Prop := lawS2573BSaturateRow.holds Yba.pinned (OpenSpec.ofChange lawS2573BSaturateWrong)

/-- 'yaml.LawS2573CSteps': WHATEVER THE INPUT: true; the input reads as it did. -/
def lawS2573CStepsSpec : ChangeSpec := { name := "lawS2573CSteps", fn := fun _ => fun
  | [d1, d2, d3, d4, d5] => { results := [.lit (.bool true)], args := [d1, d2, d3, d4, d5] }
  | _ => none }
def lawS2573CStepsRow : OpenClaim := { program := "ybulkbagm", sum := "c4b8b850a98558fe4a31ae06591ea3b604d72694d4ab03357347e921c1ad2c35", func := "example.com/evenkeel/evenkeel/internal/yaml.LawS2573CSteps", spec := "lawS2573CSteps", apart := false }
def LawS2573CStepsSaid : Prop := lawS2573CStepsRow.holds Yba.pinned (OpenSpec.ofChange lawS2573CStepsSpec)

/-- ITS FALSE NEIGHBOUR: 'it returns false'. Refute it at one input. -/
def lawS2573CStepsWrong : ChangeSpec := { name := "lawS2573CSteps", fn := fun _ => fun
  | [d1, d2, d3, d4, d5] => { results := [.lit (.bool false)], args := [d1, d2, d3, d4, d5] }
  | _ => none }
def LawS2573CStepsWrongFalsely : Prop := lawS2573CStepsRow.holds Yba.pinned (OpenSpec.ofChange lawS2573CStepsWrong)

end Rows
end Go.Proofs.Ybulkbagm
