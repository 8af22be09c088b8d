/-
  NARROWER THAN 'FOR EVERY INPUT', by the rows' own cells (each row's printed sentence says how): LawS9083CPart: laid.
  DERIVED. THE GIVEN ROWS OF THIS SEAT. 1 by the template 'for every input the law returns true; each argument reads behind the call as it read before'; 0 by the template 'total and deterministic' (their statements: YbulkgfbwFmtTotals.lean).
  GIVEN WITH THE SEED: the statements are not yours to turn. If you find one false, say at which input.
  Laid BY PROGRAM, IN A SANDBOX (cutbox-rows.mjs): the forced cells as the released guide's own fill.sh prints them over the translation 51b9a396dd5c447f… (all of the seat's roots in one cut). By AI agents, Wed Nov 11 2026. No macro, syntax, notation, axiom, sorry.
-/
import Derived.Test.YbulkgfbwFmtChecked
import GoSem.Claim
import GoSem.ClaimJoined
import GoSem.ClaimMapViews
import Derived.JoinedTies
import Derived.KernelRfl
namespace Go.Proofs.YbulkgfbwFmt
/- THE CELL 'sum', in the pinned program and in every row, IS THE sha256 OF THE DUMP (.gsa) THAT YbulkgfbwFmtProg.lean LOADS. Nothing in Lean hashes anything: it is a label: what it is worth is what the hold of that sum in a sandbox is worth. -/
noncomputable def Ybaf.pinned : Pinned := { name := "ybulkgfbwfmt", sum := "51b9a396dd5c447fcd3f411a65b22e9ba44e023688a71066578c83538c90a0bd", checked := Ybaf.checked }
namespace Rows
def none {H : Type} : Left H := { results := [], args := [] }

/- WHAT THE LISTED PACKAGE-LEVEL VARIABLES READ AS WHEN THE CALL BEGINS. Each datum BY PROGRAM (the guide's laid-datum.mjs) off the statement by which the dump's own 'gosem.cut.vars' lays the variable. In a bare row this is a premise. The card (YbulkgfbwFmtCards.lean) ties it to the program's text. -/
def laid_example_com_rowfold_rowfold_typeNames {H : Type} : DataW H := .agg [.lit (.string [110, 117, 108, 108]), .lit (.string [98, 111, 111, 108, 101, 97, 110]), .lit (.string [110, 117, 109, 98, 101, 114]), .lit (.string [115, 116, 114, 105, 110, 103]), .lit (.string [97, 114, 114, 97, 121]), .lit (.string [111, 98, 106, 101, 99, 116])]

/-- 'rowfold.LawS9083CPart': WHATEVER THE INPUT: true; the input reads as it did. -/
def lawS9083CPartSpec : ChangeSpec := { name := "lawS9083CPart", vars := ["example.com/rowfold/rowfold.typeNames"], fn := fun _ => fun
  | [d, g1] => { results := [.lit (.bool true)], args := [d], vars := [g1] }
  | _ => none }
def lawS9083CPartRow : OpenClaim := { program := "ybulkgfbwfmt", sum := "51b9a396dd5c447fcd3f411a65b22e9ba44e023688a71066578c83538c90a0bd", func := "example.com/rowfold/rowfold.LawS9083CPart", spec := "lawS9083CPart", stops := ["fmt.Sprintf"], inPlace := ["fmt.Sprintf"], named := ["example.com/rowfold/rowfold.typeNames"], apart := false, laid := [("example.com/rowfold/rowfold.typeNames", laid_example_com_rowfold_rowfold_typeNames)] }
/-- NO THEOREM (fmt's text is open here; it may be false): for the released tool's asking of the row's closed facts alone. THE STATEMENT IS 'LawS9083CPartToldSaid' (YbulkgfbwFmtCards.lean). -/
def LawS9083CPartFormAsk : Prop := lawS9083CPartRow.holds Ybaf.pinned (OpenSpec.ofChange lawS9083CPartSpec)

/-- ITS FALSE NEIGHBOUR: 'it returns false'. Refute it at one input. -/
def lawS9083CPartWrong : ChangeSpec := { name := "lawS9083CPart", vars := ["example.com/rowfold/rowfold.typeNames"], fn := fun _ => fun
  | [d, g1] => { results := [.lit (.bool false)], args := [d], vars := [g1] }
  | _ => none }
def LawS9083CPartWrongFormAsk : Prop := lawS9083CPartRow.holds Ybaf.pinned (OpenSpec.ofChange lawS9083CPartWrong)

end Rows
end Go.Proofs.YbulkgfbwFmt
