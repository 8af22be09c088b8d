/-
  No cell of these rows narrows 'for every input' (looked for: loops, veiled, ifaces, maps, wideKeys, modest, calm, conditions, laid).
  DERIVED. THE GIVEN ROWS OF THIS SEAT. 1 by the template 'for every input the law returns true; each argument reads behind the call as it read before'; 0 by the template 'total and deterministic' (their statements: YbulkgfdmTotals.lean).
  GIVEN WITH THE SEED: the statements are not yours to turn. If you find one false, say at which input.
  Laid BY PROGRAM, IN A SANDBOX (cutbox-rows.mjs): the forced cells as the released guide's own fill.sh prints them over the translation d3712f969807105c… (all of the seat's roots in one cut). By AI agents, Wed Nov 11 2026. No macro, syntax, notation, axiom, sorry.
-/
import Derived.Test.YbulkgfdmChecked
import GoSem.Claim
import GoSem.ClaimJoined
import GoSem.ClaimMapViews
import Derived.JoinedTies
import Derived.KernelRfl
namespace Go.Proofs.Ybulkgfdm
/- THE CELL 'sum', in the pinned program and in every row, IS THE sha256 OF THE DUMP (.gsa) THAT YbulkgfdmProg.lean LOADS. Nothing in Lean hashes anything: it is a label: what it is worth is what the hold of that sum in a sandbox is worth. -/
noncomputable def Yba.pinned : Pinned := { name := "ybulkgfdm", sum := "d3712f969807105cdcba2d0e08fed929859f1f200863760ba689939c9b07fbc3", checked := Yba.checked }
namespace Rows
def none {H : Type} : Left H := { results := [], args := [] }

/-- 'severance.LawS9086AWhole': WHATEVER THE INPUT: true; the input reads as it did. -/
def lawS9086AWholeSpec : ChangeSpec := { name := "lawS9086AWhole", fn := fun _ => fun
  | [d1, d2, d3] => { results := [.lit (.bool true)], args := [d1, d2, d3] }
  | _ => none }
def lawS9086AWholeRow : OpenClaim := { program := "ybulkgfdm", sum := "d3712f969807105cdcba2d0e08fed929859f1f200863760ba689939c9b07fbc3", func := "example.com/severance/severance.LawS9086AWhole", spec := "lawS9086AWhole", unfollowed := true, recurses := true, plainKeys := false, apart := false }
def LawS9086AWholeSaid : Prop := lawS9086AWholeRow.holds Yba.pinned (OpenSpec.ofChange lawS9086AWholeSpec)

/-- ITS FALSE NEIGHBOUR: 'it returns false'. Refute it at one input. -/
def lawS9086AWholeWrong : ChangeSpec := { name := "lawS9086AWhole", fn := fun _ => fun
  | [d1, d2, d3] => { results := [.lit (.bool false)], args := [d1, d2, d3] }
  | _ => none }
def LawS9086AWholeWrongFalsely : Prop := lawS9086AWholeRow.holds Yba.pinned (OpenSpec.ofChange lawS9086AWholeWrong)

end Rows
end Go.Proofs.Ybulkgfdm
