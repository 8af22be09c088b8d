/- Closed facts on the program's types and functions. -/
import Derived.Test.YbulkgfagDoorProg
import Derived.Test.YbulkgfagDoorOps
namespace Go.Proofs.YbulkgfagDoor
open Go Go.Fr
theorem na2 : aggB Ybad.prog 2 = some false := by kernel_rfl
theorem sz2 : sizeB Ybad.prog 2 = some 1 := by kernel_rfl
theorem in2 : infoB Ybad.prog 2 = some (some (.int .i64 0), 1, 8) := by kernel_rfl
theorem na3 : aggB Ybad.prog 3 = some false := by kernel_rfl
theorem sz3 : sizeB Ybad.prog 3 = some 1 := by kernel_rfl
theorem in3 : infoB Ybad.prog 3 = some (some (.int .i64 0), 1, 8) := by kernel_rfl
theorem na4 : aggB Ybad.prog 4 = some false := by kernel_rfl
theorem sz4 : sizeB Ybad.prog 4 = some 1 := by kernel_rfl
theorem in4 : infoB Ybad.prog 4 = some (some (.bool false), 1, 1) := by kernel_rfl
theorem na5 : aggB Ybad.prog 5 = some false := by kernel_rfl
theorem sz5 : sizeB Ybad.prog 5 = some 1 := by kernel_rfl
theorem in5 : infoB Ybad.prog 5 = some (some (.int .u8 0), 1, 1) := by kernel_rfl
theorem na9 : aggB Ybad.prog 9 = some false := by kernel_rfl
theorem sz9 : sizeB Ybad.prog 9 = some 1 := by kernel_rfl
theorem in9 : infoB Ybad.prog 9 = some (some (.string ⟨#[]⟩), 1, 16) := by kernel_rfl
theorem na22 : aggB Ybad.prog 22 = some false := by kernel_rfl
theorem sz22 : sizeB Ybad.prog 22 = some 1 := by kernel_rfl
theorem in22 : infoB Ybad.prog 22 = some (some (.slice none 0 0), 1, 24) := by kernel_rfl
theorem na23 : aggB Ybad.prog 23 = some false := by kernel_rfl
theorem sz23 : sizeB Ybad.prog 23 = some 1 := by kernel_rfl
theorem in23 : infoB Ybad.prog 23 = some (some (.slice none 0 0), 1, 24) := by kernel_rfl
theorem na24 : aggB Ybad.prog 24 = some false := by kernel_rfl
theorem sz24 : sizeB Ybad.prog 24 = some 1 := by kernel_rfl
theorem in24 : infoB Ybad.prog 24 = some (some (.slice none 0 0), 1, 24) := by kernel_rfl
theorem na26 : aggB Ybad.prog 26 = some false := by kernel_rfl
theorem sz26 : sizeB Ybad.prog 26 = some 1 := by kernel_rfl
theorem in26 : infoB Ybad.prog 26 = some (some (.slice none 0 0), 1, 24) := by kernel_rfl
theorem na27 : aggB Ybad.prog 27 = some false := by kernel_rfl
theorem sz27 : sizeB Ybad.prog 27 = some 1 := by kernel_rfl
theorem in27 : infoB Ybad.prog 27 = some (some (.slice none 0 0), 1, 24) := by kernel_rfl
theorem na32 : aggB Ybad.prog 32 = some false := by kernel_rfl
theorem sz32 : sizeB Ybad.prog 32 = some 1 := by kernel_rfl
theorem in32 : infoB Ybad.prog 32 = some (some (.pointer none), 1, 8) := by kernel_rfl
theorem na37 : aggB Ybad.prog 37 = some false := by kernel_rfl
theorem sz37 : sizeB Ybad.prog 37 = some 1 := by kernel_rfl
theorem in37 : infoB Ybad.prog 37 = some (some (.nilIface), 1, 16) := by kernel_rfl
theorem na42 : aggB Ybad.prog 42 = some false := by kernel_rfl
theorem sz42 : sizeB Ybad.prog 42 = some 1 := by kernel_rfl
theorem in42 : infoB Ybad.prog 42 = some (some (.pointer none), 1, 8) := by kernel_rfl
theorem na48 : aggB Ybad.prog 48 = some false := by kernel_rfl
theorem sz48 : sizeB Ybad.prog 48 = some 1 := by kernel_rfl
theorem in48 : infoB Ybad.prog 48 = some (some (.slice none 0 0), 1, 24) := by kernel_rfl
theorem na53 : aggB Ybad.prog 53 = some true := by kernel_rfl
theorem sz53 : sizeB Ybad.prog 53 = some 2 := by kernel_rfl
theorem na60 : aggB Ybad.prog 60 = some false := by kernel_rfl
theorem sz60 : sizeB Ybad.prog 60 = some 1 := by kernel_rfl
theorem in60 : infoB Ybad.prog 60 = some (some (.slice none 0 0), 1, 24) := by kernel_rfl
theorem na61 : aggB Ybad.prog 61 = some false := by kernel_rfl
theorem sz61 : sizeB Ybad.prog 61 = some 1 := by kernel_rfl
theorem in61 : infoB Ybad.prog 61 = some (some (.int .u64 0), 1, 8) := by kernel_rfl
theorem na62 : aggB Ybad.prog 62 = some false := by kernel_rfl
theorem sz62 : sizeB Ybad.prog 62 = some 1 := by kernel_rfl
theorem in62 : infoB Ybad.prog 62 = some (some (.int .u64 0), 1, 8) := by kernel_rfl
theorem fl44_5 : fieldB Ybad.prog 44 5 = some 6 := by kernel_rfl
theorem fl44_2 : fieldB Ybad.prog 44 2 = some 2 := by kernel_rfl
theorem fl44_3 : fieldB Ybad.prog 44 3 = some 3 := by kernel_rfl
theorem fl57_0 : fieldB Ybad.prog 57 0 = some 0 := by kernel_rfl
theorem fl57_1 : fieldB Ybad.prog 57 1 = some 2 := by kernel_rfl
theorem fl53_0 : fieldB Ybad.prog 53 0 = some 0 := by kernel_rfl
theorem fl53_1 : fieldB Ybad.prog 53 1 = some 1 := by kernel_rfl
theorem fl34_1 : fieldB Ybad.prog 34 1 = some 1 := by kernel_rfl
theorem fl34_0 : fieldB Ybad.prog 34 0 = some 0 := by kernel_rfl
theorem en3 : Enters Ybad.prog 3 := enters_of Ybad.func3 (by kernel_rfl) rfl
theorem en4 : Enters Ybad.prog 4 := enters_of Ybad.func4 (by kernel_rfl) rfl
theorem en5 : Enters Ybad.prog 5 := enters_of Ybad.func5 (by kernel_rfl) rfl
theorem en6 : Enters Ybad.prog 6 := enters_of Ybad.func6 (by kernel_rfl) rfl
theorem en7 : Enters Ybad.prog 7 := enters_of Ybad.func7 (by kernel_rfl) rfl
theorem en8 : Enters Ybad.prog 8 := enters_of Ybad.func8 (by kernel_rfl) rfl
theorem en9 : Enters Ybad.prog 9 := enters_of Ybad.func9 (by kernel_rfl) rfl
theorem en10 : Enters Ybad.prog 10 := enters_of Ybad.func10 (by kernel_rfl) rfl
theorem en11 : Enters Ybad.prog 11 := enters_of Ybad.func11 (by kernel_rfl) rfl
theorem en12 : Enters Ybad.prog 12 := enters_of Ybad.func12 (by kernel_rfl) rfl
theorem en13 : Enters Ybad.prog 13 := enters_of Ybad.func13 (by kernel_rfl) rfl
theorem en14 : Enters Ybad.prog 14 := enters_of Ybad.func14 (by kernel_rfl) rfl
theorem en15 : Enters Ybad.prog 15 := enters_of Ybad.func15 (by kernel_rfl) rfl
theorem en16 : Enters Ybad.prog 16 := enters_of Ybad.func16 (by kernel_rfl) rfl
theorem en17 : Enters Ybad.prog 17 := enters_of Ybad.func17 (by kernel_rfl) rfl
theorem en18 : Enters Ybad.prog 18 := enters_of Ybad.func18 (by kernel_rfl) rfl
theorem en19 : Enters Ybad.prog 19 := enters_of Ybad.func19 (by kernel_rfl) rfl
theorem en20 : Enters Ybad.prog 20 := enters_of Ybad.func20 (by kernel_rfl) rfl
theorem en21 : Enters Ybad.prog 21 := enters_of Ybad.func21 (by kernel_rfl) rfl
theorem en22 : Enters Ybad.prog 22 := enters_of Ybad.func22 (by kernel_rfl) rfl
theorem en23 : Enters Ybad.prog 23 := enters_of Ybad.func23 (by kernel_rfl) rfl
theorem en24 : Enters Ybad.prog 24 := enters_of Ybad.func24 (by kernel_rfl) rfl
theorem sl22 : IsSlice Ybad.prog 22 := ⟨_, Ybad.underlying22⟩
theorem sl23 : IsSlice Ybad.prog 23 := ⟨_, Ybad.underlying23⟩
theorem sl24 : IsSlice Ybad.prog 24 := ⟨_, Ybad.underlying24⟩
theorem sl26 : IsSlice Ybad.prog 26 := ⟨_, Ybad.underlying26⟩
theorem sl27 : IsSlice Ybad.prog 27 := ⟨_, Ybad.underlying27⟩
theorem sl48 : IsSlice Ybad.prog 48 := ⟨_, Ybad.underlying48⟩
theorem sl60 : IsSlice Ybad.prog 60 := ⟨_, Ybad.underlying60⟩
theorem in53 : infoB Ybad.prog 53 = some (some (.agg #[.pointer none, .string ⟨#[]⟩]), 2, 24) := by kernel_rfl
theorem pt42 : Ybad.prog.underlying 42 = some (.pointer (Ybad.prog.pointee 42)) := by kernel_rfl
theorem if37 : Ybad.prog.underlying 37 = some (.interface (Ybad.prog.methodsAt 37)) := by kernel_rfl
theorem mixed : Ybad.prog.follows .mixedOrders = true := by kernel_rfl
end Go.Proofs.YbulkgfagDoor
