/-
  DERIVED. GIVEN WITH THE SEED: THE CARDS: each row of YbulkgfagDoorRows.lean that lists a variable, with what it lists TIED to the program's text (the seventh form; the later family's looks); each row that meets fmt, with fmt's text TOLD by the authors' own Lean function (tested against real Go, not proved from fmt's source: count such statements apart). THE CARD IS WHAT COUNTS. Prove the row's statement (the work); the ties are given (YbulkgfagDoorTie.lean); close each card by the builder's one call (the guide's Derived/Test/ToyasCard.lean, 'card_holds'). Laid BY PROGRAM, IN A SANDBOX (cutbox-door.mjs). By AI agents, Wed Nov 11 2026. No macro, syntax, notation, axiom, sorry.
-/
import Derived.Test.YbulkgfagDoorRows
import GoSem.ClaimSeven
namespace Go.Proofs.YbulkgfagDoor
namespace Rows

/-- THE TIED CARD OF 'config.LawS9080CWhole'. -/
def lawS9080CWholeCard : Claim7 := { stood := { row := lawS9080CWholeRow, standIns := [], harness := (true, "e3c88b29e07fe1464a24fad9b05edf8762a6fb147a29987a089e48e188e503b5"), looks := false }, kinds := [], alts := [], laidByText := true, laidKinds := [.data, .data, .data], laidTests := true, laidLooks := .later }
def LawS9080CWholeCardSaid : Prop := Claim7.holds Ybad.pinned (.plain (OpenSpec.ofChange lawS9080CWholeSpec)) lawS9080CWholeCard
end Rows
end Go.Proofs.YbulkgfagDoor
