/-
  No cell of these rows narrows 'for every input' (looked for: loops, veiled, ifaces, maps, wideKeys, modest, calm, conditions, laid).
  DERIVED. THE GIVEN ROWS OF THIS SEAT. 3 by the template 'for every input the law returns true; each argument reads behind the call as it read before'; 0 by the template 'total and deterministic' (their statements: YbulkbahoTotals.lean).
  GIVEN WITH THE SEED: the statements are not yours to turn. If you find one false, say at which input.
  Laid BY PROGRAM, IN A SANDBOX (cutbox-rows.mjs): the forced cells as the released guide's own fill.sh prints them over the translation 4b076ff58cffffc4… (all of the seat's roots in one cut). By AI agents, Wed Nov 11 2026. No macro, syntax, notation, axiom, sorry.
-/
import Derived.Test.YbulkbahoChecked
import GoSem.Claim
import GoSem.ClaimJoined
import GoSem.ClaimMapViews
import Derived.JoinedTies
import Derived.KernelRfl
namespace Go.Proofs.Ybulkbaho
/- THE CELL 'sum', in the pinned program and in every row, IS THE sha256 OF THE DUMP (.gsa) THAT YbulkbahoProg.lean LOADS. Nothing in Lean hashes anything: it is a label: what it is worth is what the hold of that sum in a sandbox is worth. -/
noncomputable def Yba.pinned : Pinned := { name := "ybulkbaho", sum := "4b076ff58cffffc4ea570c19c81c2d4c452eeea2f1e24e95a215259ab5c5e693", checked := Yba.checked }
namespace Rows
def none {H : Type} : Left H := { results := [], args := [] }

/-- 'dns.LawS2575AValue': WHATEVER THE INPUT: true; the input reads as it did. -/
def lawS2575AValueSpec : ChangeSpec := { name := "lawS2575AValue", fn := fun _ => fun
  | [d] => { results := [.lit (.bool true)], args := [d] }
  | _ => none }
def lawS2575AValueRow : OpenClaim := { program := "ybulkbaho", sum := "4b076ff58cffffc4ea570c19c81c2d4c452eeea2f1e24e95a215259ab5c5e693", func := "example.com/anchorsign/anchorsign/internal/dns.LawS2575AValue", spec := "lawS2575AValue", named := ["encoding/binary.BigEndian"], apart := false }
def LawS2575AValueSaid : Prop := lawS2575AValueRow.holds Yba.pinned (OpenSpec.ofChange lawS2575AValueSpec)

/-- ITS FALSE NEIGHBOUR: 'it returns false'. Refute it at one input. -/
def lawS2575AValueWrong : ChangeSpec := { name := "lawS2575AValue", fn := fun _ => fun
  | [d] => { results := [.lit (.bool false)], args := [d] }
  | _ => none }
def LawS2575AValueWrongFalsely : Prop := lawS2575AValueRow.holds Yba.pinned (OpenSpec.ofChange lawS2575AValueWrong)

/-- 'dns.LawS2575AAppend': WHATEVER THE INPUT: true; the input reads as it did. -/
def lawS2575AAppendSpec : ChangeSpec := { name := "lawS2575AAppend", fn := fun _ => fun
  | [d1, d2] => { results := [.lit (.bool true)], args := [d1, d2] }
  | _ => none }
def lawS2575AAppendRow : OpenClaim := { program := "ybulkbaho", sum := "4b076ff58cffffc4ea570c19c81c2d4c452eeea2f1e24e95a215259ab5c5e693", func := "example.com/anchorsign/anchorsign/internal/dns.LawS2575AAppend", spec := "lawS2575AAppend", apart := false }
def LawS2575AAppendSaid : Prop := lawS2575AAppendRow.holds Yba.pinned (OpenSpec.ofChange lawS2575AAppendSpec)

/-- ITS FALSE NEIGHBOUR: 'it returns false'. Refute it at one input. -/
def lawS2575AAppendWrong : ChangeSpec := { name := "lawS2575AAppend", fn := fun _ => fun
  | [d1, d2] => { results := [.lit (.bool false)], args := [d1, d2] }
  | _ => none }
def LawS2575AAppendWrongFalsely : Prop := lawS2575AAppendRow.holds Yba.pinned (OpenSpec.ofChange lawS2575AAppendWrong)

/-- 'dns.LawS2575AEmpty': WHATEVER THE INPUT: true; the input reads as it did. -/
def lawS2575AEmptySpec : ChangeSpec := { name := "lawS2575AEmpty", fn := fun _ => fun
  | [d] => { results := [.lit (.bool true)], args := [d] }
  | _ => none }
def lawS2575AEmptyRow : OpenClaim := { program := "ybulkbaho", sum := "4b076ff58cffffc4ea570c19c81c2d4c452eeea2f1e24e95a215259ab5c5e693", func := "example.com/anchorsign/anchorsign/internal/dns.LawS2575AEmpty", spec := "lawS2575AEmpty", apart := false }
def LawS2575AEmptySaid : Prop := lawS2575AEmptyRow.holds Yba.pinned (OpenSpec.ofChange lawS2575AEmptySpec)

/-- ITS FALSE NEIGHBOUR: 'it returns false'. Refute it at one input. -/
def lawS2575AEmptyWrong : ChangeSpec := { name := "lawS2575AEmpty", fn := fun _ => fun
  | [d] => { results := [.lit (.bool false)], args := [d] }
  | _ => none }
def LawS2575AEmptyWrongFalsely : Prop := lawS2575AEmptyRow.holds Yba.pinned (OpenSpec.ofChange lawS2575AEmptyWrong)

end Rows
end Go.Proofs.Ybulkbaho
