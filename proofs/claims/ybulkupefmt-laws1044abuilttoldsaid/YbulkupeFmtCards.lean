/-
  DERIVED. GIVEN WITH THE SEED: THE CARDS: each row of YbulkupeFmtRows.lean that lists a variable, with what it lists TIED to the program's text (the seventh form; the later family's looks); each row that meets fmt, with fmt's text TOLD by the authors' own Lean function (tested against real Go, not proved from fmt's source: count such statements apart). THE CARD IS WHAT COUNTS. Prove the row's statement (the work); the ties are given (YbulkupeFmtTie.lean); close each card by the builder's one call (the guide's Derived/Test/ToyasCard.lean, 'card_holds'). Laid BY PROGRAM, IN A SANDBOX (cutbox-door.mjs). By AI agents, Wed Nov 11 2026. No macro, syntax, notation, axiom, sorry.
-/
import Derived.Test.YbulkupeFmtRows
import GoSem.ClaimSeven
namespace Go.Proofs.YbulkupeFmt
namespace Rows

/-- THE TOLD AND TIED CARD OF 'netdb.LawS1044ARaw'. -/
def lawS1044ARawCard : Claim7 := { stood := { row := lawS1044ARawRow, standIns := [], harness := (true, "ac542c86ba070647582cb023ffc58b2d291ac4d90f1b8ad6cdc21a457c873f7c"), looks := false }, told := true, laidByText := true, laidKinds := [.mapped], laidTests := true, laidLooks := .later, goes := false }
def LawS1044ARawToldSaid : Prop := Claim7.holds Ybaf.pinned (.plain (OpenSpec.ofChange lawS1044ARawSpec)) lawS1044ARawCard
/-- ITS FALSE NEIGHBOUR. Refute it at one input. -/
def LawS1044ARawToldWrongFalsely : Prop := Claim7.holds Ybaf.pinned (.plain (OpenSpec.ofChange lawS1044ARawWrong)) lawS1044ARawCard

/-- THE TOLD AND TIED CARD OF 'netdb.LawS1044ABuilt'. -/
def lawS1044ABuiltCard : Claim7 := { stood := { row := lawS1044ABuiltRow, standIns := [], harness := (true, "ac542c86ba070647582cb023ffc58b2d291ac4d90f1b8ad6cdc21a457c873f7c"), looks := false }, told := true, laidByText := true, laidKinds := [.mapped], laidTests := true, laidLooks := .later, goes := false }
def LawS1044ABuiltToldSaid : Prop := Claim7.holds Ybaf.pinned (.plain (OpenSpec.ofChange lawS1044ABuiltSpec)) lawS1044ABuiltCard
/-- ITS FALSE NEIGHBOUR. Refute it at one input. -/
def LawS1044ABuiltToldWrongFalsely : Prop := Claim7.holds Ybaf.pinned (.plain (OpenSpec.ofChange lawS1044ABuiltWrong)) lawS1044ABuiltCard
end Rows
end Go.Proofs.YbulkupeFmt
