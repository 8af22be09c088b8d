/- The tied card of LawS9080CWhole. -/
import Derived.Test.YbulkgfagDoorRow
import Derived.Test.YbulkgfagDoorTie
import Derived.Test.YbulkgfagDoorCards
import Derived.SevenTiedAt
namespace Go.Proofs.YbulkgfagDoor
open Go

theorem lawS9080CWhole_card : Rows.LawS9080CWholeCardSaid :=
  Claim7.holds_tied_plain_at .later [] [.data, .data, .data] true (true, "e3c88b29e07fe1464a24fad9b05edf8762a6fb147a29987a089e48e188e503b5") false
    lawS9080CWhole_holds (fun _ h => by cases h) (by kernel_rfl) (fun _ h => by cases h) lawS9080CWhole_row_tie rfl ⟨rfl, rfl⟩ (by kernel_rfl) rfl
    (fun f fn hf hfn => by
      obtain rfl : f = 3 := Option.some.inj ((show Ybad.prog.funcNamed Rows.lawS9080CWholeRow.func = some 3 by kernel_rfl).symm.trans hf) |>.symm
      obtain rfl : fn = Ybad.f3 := (Option.some.inj (Ybad.func3.symm.trans hfn)).symm
      exact ⟨by kernel_rfl, fun j t ht => by
        rw [Ybad.params3] at ht
        have hm : t ∈ [5, 5, 22, 22, 22, 9, 9] := by simpa using Array.mem_of_getElem? ht
        have hall : ([5, 5, 22, 22, 22, 9, 9].all fun u => !Ybad.prog.wantsStandIn u) = true := by kernel_rfl
        exact (show Ybad.prog.wantsStandIn t = false by simpa using List.all_eq_true.1 hall t hm)⟩)
    (by kernel_rfl)
end Go.Proofs.YbulkgfagDoor
