/-
  DERIVED. GIVEN WITH THE SEED: THE CARDS: each row of YbulkbagmFmtRows.lean that lists a variable, with what it lists TIED to the program's text (the seventh form; the later family's looks); each row that meets fmt, with fmt's text TOLD by the authors' own Lean function (tested against real Go, not proved from fmt's source: count such statements apart). THE CARD IS WHAT COUNTS. Prove the row's statement (the work); the ties are given (YbulkbagmFmtTie.lean); close each card by the builder's one call (the guide's Derived/Test/ToyasCard.lean, 'card_holds'). Laid BY PROGRAM, IN A SANDBOX (cutbox-door.mjs). By AI agents, Wed Nov 11 2026. No macro, syntax, notation, axiom, sorry.
-/
import Derived.Test.YbulkbagmFmtRows
import GoSem.ClaimSeven
namespace Go.Proofs.YbulkbagmFmt
namespace Rows

/-- THE TOLD CARD OF 'placement.LawS2573AClass'. -/
def lawS2573AClassCard : Claim7 := { stood := { row := lawS2573AClassRow, standIns := [], harness := (true, "8e820b0272e76434f352550e1368bcaf3aca6176527e3168476837d704cbc26f"), looks := false }, told := true, goes := false }
def LawS2573AClassToldSaid : Prop := Claim7.holds Ybaf.pinned (.plain (OpenSpec.ofChange lawS2573AClassSpec)) lawS2573AClassCard
/-- ITS FALSE NEIGHBOUR. Refute it at one input. -/
def LawS2573AClassToldWrongFalsely : Prop := Claim7.holds Ybaf.pinned (.plain (OpenSpec.ofChange lawS2573AClassWrong)) lawS2573AClassCard

/-- THE TOLD CARD OF 'placement.LawS2573APriority'. -/
def lawS2573APriorityCard : Claim7 := { stood := { row := lawS2573APriorityRow, standIns := [], harness := (true, "8e820b0272e76434f352550e1368bcaf3aca6176527e3168476837d704cbc26f"), looks := false }, told := true, goes := false }
def LawS2573APriorityToldSaid : Prop := Claim7.holds Ybaf.pinned (.plain (OpenSpec.ofChange lawS2573APrioritySpec)) lawS2573APriorityCard
/-- ITS FALSE NEIGHBOUR. Refute it at one input. -/
def LawS2573APriorityToldWrongFalsely : Prop := Claim7.holds Ybaf.pinned (.plain (OpenSpec.ofChange lawS2573APriorityWrong)) lawS2573APriorityCard
end Rows
end Go.Proofs.YbulkbagmFmt
