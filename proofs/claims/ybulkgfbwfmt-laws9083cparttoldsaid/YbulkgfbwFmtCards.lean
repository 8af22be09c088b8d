/-
  DERIVED. GIVEN WITH THE SEED: THE CARDS: each row of YbulkgfbwFmtRows.lean that lists a variable, with what it lists TIED to the program's text (the seventh form; the later family's looks); each row that meets fmt, with fmt's text TOLD by the authors' own Lean function (tested against real Go, not proved from fmt's source: count such statements apart). THE CARD IS WHAT COUNTS. Prove the row's statement (the work); the ties are given (YbulkgfbwFmtTie.lean); close each card by the builder's one call (the guide's Derived/Test/ToyasCard.lean, 'card_holds'). Laid BY PROGRAM, IN A SANDBOX (cutbox-door.mjs). By AI agents, Wed Nov 11 2026. No macro, syntax, notation, axiom, sorry.
-/
import Derived.Test.YbulkgfbwFmtRows
import GoSem.ClaimSeven
namespace Go.Proofs.YbulkgfbwFmt
namespace Rows

/-- THE TOLD AND TIED CARD OF 'rowfold.LawS9083CPart'. -/
def lawS9083CPartCard : Claim7 := { stood := { row := lawS9083CPartRow, standIns := [], harness := (true, "c0e2f090d1e397b37ff9423e4c513627b200c0e921996f64b2de6f462597dfb9"), looks := false }, told := true, laidByText := true, laidKinds := [.data], laidTests := true, laidLooks := .later, goes := false }
def LawS9083CPartToldSaid : Prop := Claim7.holds Ybaf.pinned (.plain (OpenSpec.ofChange lawS9083CPartSpec)) lawS9083CPartCard
/-- ITS FALSE NEIGHBOUR. Refute it at one input. -/
def LawS9083CPartToldWrongFalsely : Prop := Claim7.holds Ybaf.pinned (.plain (OpenSpec.ofChange lawS9083CPartWrong)) lawS9083CPartCard
end Rows
end Go.Proofs.YbulkgfbwFmt
