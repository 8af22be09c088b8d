/-
  No cell of these rows narrows 'for every input' (looked for: loops, veiled, ifaces, maps, wideKeys, modest, calm, conditions, laid).
  DERIVED. THE GIVEN ROWS OF THIS SEAT. 1 by the template 'for every input the law returns true; each argument reads behind the call as it read before'; 0 by the template 'total and deterministic' (their statements: YbulkgfauTotals.lean).
  GIVEN WITH THE SEED: the statements are not yours to turn. If you find one false, say at which input.
  Laid BY PROGRAM, IN A SANDBOX (cutbox-rows.mjs): the forced cells as the released guide's own fill.sh prints them over the translation b5172fa7ae30cb61… (all of the seat's roots in one cut). By AI agents, Wed Nov 11 2026. No macro, syntax, notation, axiom, sorry.
-/
import Derived.Test.YbulkgfauChecked
import GoSem.Claim
import GoSem.ClaimJoined
import GoSem.ClaimMapViews
import Derived.JoinedTies
import Derived.KernelRfl
namespace Go.Proofs.Ybulkgfau
/- THE CELL 'sum', in the pinned program and in every row, IS THE sha256 OF THE DUMP (.gsa) THAT YbulkgfauProg.lean LOADS. Nothing in Lean hashes anything: it is a label: what it is worth is what the hold of that sum in a sandbox is worth. -/
noncomputable def Yba.pinned : Pinned := { name := "ybulkgfau", sum := "b5172fa7ae30cb61f930fa9dc00ecaf1ac3d773f2e4f328776505e7f7ea07c04", checked := Yba.checked }
namespace Rows
def none {H : Type} : Left H := { results := [], args := [] }

/-- 'book.LawS9081CWhole': WHATEVER THE INPUT: true; the input reads as it did. -/
def lawS9081CWholeSpec : ChangeSpec := { name := "lawS9081CWhole", fn := fun _ => fun
  | [d1, d2] => { results := [.lit (.bool true)], args := [d1, d2] }
  | _ => none }
def lawS9081CWholeRow : OpenClaim := { program := "ybulkgfau", sum := "b5172fa7ae30cb61f930fa9dc00ecaf1ac3d773f2e4f328776505e7f7ea07c04", func := "example.com/tuoguan/tuoguan/book.LawS9081CWhole", spec := "lawS9081CWhole", inPlace := ["internal/reflectlite.ValueOf", "internal/reflectlite.Swapper", "(internal/reflectlite.Value).Len"], unfollowed := true, recurses := true, apart := false }
def LawS9081CWholeSaid : Prop := lawS9081CWholeRow.holds Yba.pinned (OpenSpec.ofChange lawS9081CWholeSpec)

/-- ITS FALSE NEIGHBOUR: 'it returns false'. Refute it at one input. -/
def lawS9081CWholeWrong : ChangeSpec := { name := "lawS9081CWhole", fn := fun _ => fun
  | [d1, d2] => { results := [.lit (.bool false)], args := [d1, d2] }
  | _ => none }
def LawS9081CWholeWrongFalsely : Prop := lawS9081CWholeRow.holds Yba.pinned (OpenSpec.ofChange lawS9081CWholeWrong)

end Rows
end Go.Proofs.Ybulkgfau
