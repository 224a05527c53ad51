/-
  No cell of these rows narrows 'for every input' (looked for: loops, veiled, ifaces, maps, wideKeys, modest, calm, conditions, laid).
  DERIVED. THE GIVEN ROWS OF THIS SEAT. 2 by the template 'for every input the law returns true; each argument reads behind the call as it read before'; 0 by the template 'total and deterministic' (their statements: YbulkbagmFmtTotals.lean).
  GIVEN WITH THE SEED: the statements are not yours to turn. If you find one false, say at which input.
  Laid BY PROGRAM, IN A SANDBOX (cutbox-rows.mjs): the forced cells as the released guide's own fill.sh prints them over the translation 62164f817313e909… (all of the seat's roots in one cut). By AI agents, Wed Nov 11 2026. No macro, syntax, notation, axiom, sorry.
-/
import Derived.Test.YbulkbagmFmtChecked
import GoSem.Claim
import GoSem.ClaimJoined
import GoSem.ClaimMapViews
import Derived.JoinedTies
import Derived.KernelRfl
namespace Go.Proofs.YbulkbagmFmt
/- THE CELL 'sum', in the pinned program and in every row, IS THE sha256 OF THE DUMP (.gsa) THAT YbulkbagmFmtProg.lean LOADS. Nothing in Lean hashes anything: it is a label: what it is worth is what the hold of that sum in a sandbox is worth. -/
noncomputable def Ybaf.pinned : Pinned := { name := "ybulkbagmfmt", sum := "62164f817313e9093c69e9f9b3ea8ba096ba668c7d0d80c24f175d3a5d4bc3f0", checked := Ybaf.checked }
namespace Rows
def none {H : Type} : Left H := { results := [], args := [] }

/-- 'placement.LawS2573AClass': WHATEVER THE INPUT: true; the input reads as it did. -/
def lawS2573AClassSpec : ChangeSpec := { name := "lawS2573AClass", fn := fun _ => fun
  | [d1, d2, d3, d4, d5] => { results := [.lit (.bool true)], args := [d1, d2, d3, d4, d5] }
  | _ => none }
def lawS2573AClassRow : OpenClaim := { program := "ybulkbagmfmt", sum := "62164f817313e9093c69e9f9b3ea8ba096ba668c7d0d80c24f175d3a5d4bc3f0", func := "example.com/evenkeel/evenkeel/pkg/placement.LawS2573AClass", spec := "lawS2573AClass", stops := ["fmt.errorf"], inPlace := ["fmt.errorf"], plainKeys := false, apart := false }
/-- NO THEOREM (fmt's text is open here; it may be false): for the released tool's asking of the row's closed facts alone. THE STATEMENT IS 'LawS2573AClassToldSaid' (YbulkbagmFmtCards.lean). -/
def LawS2573AClassFormAsk : Prop := lawS2573AClassRow.holds Ybaf.pinned (OpenSpec.ofChange lawS2573AClassSpec)

/-- ITS FALSE NEIGHBOUR: 'it returns false'. Refute it at one input. -/
def lawS2573AClassWrong : ChangeSpec := { name := "lawS2573AClass", fn := fun _ => fun
  | [d1, d2, d3, d4, d5] => { results := [.lit (.bool false)], args := [d1, d2, d3, d4, d5] }
  | _ => none }
def LawS2573AClassWrongFormAsk : Prop := lawS2573AClassRow.holds Ybaf.pinned (OpenSpec.ofChange lawS2573AClassWrong)

/-- 'placement.LawS2573APriority': WHATEVER THE INPUT: true; the input reads as it did. -/
def lawS2573APrioritySpec : ChangeSpec := { name := "lawS2573APriority", fn := fun _ => fun
  | [d1, d2, d3, d4, d5] => { results := [.lit (.bool true)], args := [d1, d2, d3, d4, d5] }
  | _ => none }
def lawS2573APriorityRow : OpenClaim := { program := "ybulkbagmfmt", sum := "62164f817313e9093c69e9f9b3ea8ba096ba668c7d0d80c24f175d3a5d4bc3f0", func := "example.com/evenkeel/evenkeel/pkg/placement.LawS2573APriority", spec := "lawS2573APriority", stops := ["fmt.errorf"], inPlace := ["fmt.errorf"], plainKeys := false, apart := false }
/-- NO THEOREM (fmt's text is open here; it may be false): for the released tool's asking of the row's closed facts alone. THE STATEMENT IS 'LawS2573APriorityToldSaid' (YbulkbagmFmtCards.lean). -/
def LawS2573APriorityFormAsk : Prop := lawS2573APriorityRow.holds Ybaf.pinned (OpenSpec.ofChange lawS2573APrioritySpec)

/-- ITS FALSE NEIGHBOUR: 'it returns false'. Refute it at one input. -/
def lawS2573APriorityWrong : ChangeSpec := { name := "lawS2573APriority", fn := fun _ => fun
  | [d1, d2, d3, d4, d5] => { results := [.lit (.bool false)], args := [d1, d2, d3, d4, d5] }
  | _ => none }
def LawS2573APriorityWrongFormAsk : Prop := lawS2573APriorityRow.holds Ybaf.pinned (OpenSpec.ofChange lawS2573APriorityWrong)

end Rows
end Go.Proofs.YbulkbagmFmt
