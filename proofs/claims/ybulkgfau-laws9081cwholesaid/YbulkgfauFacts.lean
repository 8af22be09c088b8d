/- Closed facts on the program's types and functions. -/
import Derived.Test.YbulkgfauProg
import Derived.Test.YbulkgfauOps
namespace Go.Proofs.Ybulkgfau
open Go Go.Fr
theorem na2 : aggB Yba.prog 2 = some false := by kernel_rfl
theorem sz2 : sizeB Yba.prog 2 = some 1 := by kernel_rfl
theorem in2 : infoB Yba.prog 2 = some (some (.int .i64 0), 1, 8) := by kernel_rfl
theorem na3 : aggB Yba.prog 3 = some false := by kernel_rfl
theorem sz3 : sizeB Yba.prog 3 = some 1 := by kernel_rfl
theorem in3 : infoB Yba.prog 3 = some (some (.int .i64 0), 1, 8) := by kernel_rfl
theorem na4 : aggB Yba.prog 4 = some false := by kernel_rfl
theorem sz4 : sizeB Yba.prog 4 = some 1 := by kernel_rfl
theorem in4 : infoB Yba.prog 4 = some (some (.bool false), 1, 1) := by kernel_rfl
theorem na5 : aggB Yba.prog 5 = some false := by kernel_rfl
theorem sz5 : sizeB Yba.prog 5 = some 1 := by kernel_rfl
theorem in5 : infoB Yba.prog 5 = some (some (.int .u8 0), 1, 1) := by kernel_rfl
theorem na9 : aggB Yba.prog 9 = some false := by kernel_rfl
theorem sz9 : sizeB Yba.prog 9 = some 1 := by kernel_rfl
theorem in9 : infoB Yba.prog 9 = some (some (.string ⟨#[]⟩), 1, 16) := by kernel_rfl
theorem na20 : aggB Yba.prog 20 = some false := by kernel_rfl
theorem sz20 : sizeB Yba.prog 20 = some 1 := by kernel_rfl
theorem in20 : infoB Yba.prog 20 = some (some (.nilIface), 1, 16) := by kernel_rfl
theorem na21 : aggB Yba.prog 21 = some false := by kernel_rfl
theorem sz21 : sizeB Yba.prog 21 = some 1 := by kernel_rfl
theorem in21 : infoB Yba.prog 21 = some (some (.int .i32 0), 1, 4) := by kernel_rfl
theorem na22 : aggB Yba.prog 22 = some false := by kernel_rfl
theorem sz22 : sizeB Yba.prog 22 = some 1 := by kernel_rfl
theorem in22 : infoB Yba.prog 22 = some (some (.slice none 0 0), 1, 24) := by kernel_rfl
theorem na23 : aggB Yba.prog 23 = some false := by kernel_rfl
theorem sz23 : sizeB Yba.prog 23 = some 1 := by kernel_rfl
theorem in23 : infoB Yba.prog 23 = some (some (.pointer none), 1, 8) := by kernel_rfl
theorem na26 : aggB Yba.prog 26 = some true := by kernel_rfl
theorem sz26 : sizeB Yba.prog 26 = some 4 := by kernel_rfl
theorem na27 : aggB Yba.prog 27 = some false := by kernel_rfl
theorem sz27 : sizeB Yba.prog 27 = some 1 := by kernel_rfl
theorem in27 : infoB Yba.prog 27 = some (some (.slice none 0 0), 1, 24) := by kernel_rfl
theorem na29 : aggB Yba.prog 29 = some true := by kernel_rfl
theorem sz29 : sizeB Yba.prog 29 = some 3 := by kernel_rfl
theorem in29 : infoB Yba.prog 29 = some (some (.agg #[.int .i64 0, .int .i64 0, .int .u8 0]), 3, 24) := by kernel_rfl
theorem na30 : aggB Yba.prog 30 = some false := by kernel_rfl
theorem sz30 : sizeB Yba.prog 30 = some 1 := by kernel_rfl
theorem in30 : infoB Yba.prog 30 = some (some (.int .u64 0), 1, 8) := by kernel_rfl
theorem na31 : aggB Yba.prog 31 = some false := by kernel_rfl
theorem sz31 : sizeB Yba.prog 31 = some 1 := by kernel_rfl
theorem in31 : infoB Yba.prog 31 = some (some (.pointer none), 1, 8) := by kernel_rfl
theorem na33 : aggB Yba.prog 33 = some true := by kernel_rfl
theorem sz33 : sizeB Yba.prog 33 = some 3 := by kernel_rfl
theorem in33 : infoB Yba.prog 33 = some (some (.agg #[.int .u64 0, .int .i64 0, .pointer none]), 3, 24) := by kernel_rfl
theorem na36 : aggB Yba.prog 36 = some true := by kernel_rfl
theorem sz36 : sizeB Yba.prog 36 = some 5 := by kernel_rfl
theorem in36 : infoB Yba.prog 36 = some (some (.agg #[.int .i64 0, .int .u64 0, .int .i64 0, .pointer none, .pointer none]), 5, 40) := by kernel_rfl
theorem na37 : aggB Yba.prog 37 = some false := by kernel_rfl
theorem sz37 : sizeB Yba.prog 37 = some 1 := by kernel_rfl
theorem in37 : infoB Yba.prog 37 = some (some (.slice none 0 0), 1, 24) := by kernel_rfl
theorem na41 : aggB Yba.prog 41 = some false := by kernel_rfl
theorem sz41 : sizeB Yba.prog 41 = some 1 := by kernel_rfl
theorem in41 : infoB Yba.prog 41 = some (some (.int .i64 0), 1, 8) := by kernel_rfl
theorem na44 : aggB Yba.prog 44 = some false := by kernel_rfl
theorem sz44 : sizeB Yba.prog 44 = some 1 := by kernel_rfl
theorem na51 : aggB Yba.prog 51 = some true := by kernel_rfl
theorem sz51 : sizeB Yba.prog 51 = some 3 := by kernel_rfl
theorem in51 : infoB Yba.prog 51 = some (some (.agg #[.pointer none, .pointer none, .int .u64 0]), 3, 24) := by kernel_rfl
theorem na53 : aggB Yba.prog 53 = some false := by kernel_rfl
theorem sz53 : sizeB Yba.prog 53 = some 1 := by kernel_rfl
theorem na57 : aggB Yba.prog 57 = some true := by kernel_rfl
theorem sz57 : sizeB Yba.prog 57 = some 2 := by kernel_rfl
theorem na59 : aggB Yba.prog 59 = some false := by kernel_rfl
theorem sz59 : sizeB Yba.prog 59 = some 1 := by kernel_rfl
theorem in59 : infoB Yba.prog 59 = some (some (.pointer none), 1, 8) := by kernel_rfl
theorem na60 : aggB Yba.prog 60 = some false := by kernel_rfl
theorem sz60 : sizeB Yba.prog 60 = some 1 := by kernel_rfl
theorem in60 : infoB Yba.prog 60 = some (some (.int .u64 0), 1, 8) := by kernel_rfl
theorem fl29_0 : fieldB Yba.prog 29 0 = some 0 := by kernel_rfl
theorem fl29_1 : fieldB Yba.prog 29 1 = some 1 := by kernel_rfl
theorem fl29_2 : fieldB Yba.prog 29 2 = some 2 := by kernel_rfl
theorem fl36_0 : fieldB Yba.prog 36 0 = some 0 := by kernel_rfl
theorem fl36_1 : fieldB Yba.prog 36 1 = some 1 := by kernel_rfl
theorem fl36_2 : fieldB Yba.prog 36 2 = some 4 := by kernel_rfl
theorem fl33_0 : fieldB Yba.prog 33 0 = some 0 := by kernel_rfl
theorem fl33_1 : fieldB Yba.prog 33 1 = some 1 := by kernel_rfl
theorem fl33_2 : fieldB Yba.prog 33 2 = some 2 := by kernel_rfl
theorem fl57_0 : fieldB Yba.prog 57 0 = some 0 := by kernel_rfl
theorem fl57_1 : fieldB Yba.prog 57 1 = some 1 := by kernel_rfl
theorem en3 : Enters Yba.prog 3 := enters_of Yba.func3 (by kernel_rfl) rfl
theorem en4 : Enters Yba.prog 4 := enters_of Yba.func4 (by kernel_rfl) rfl
theorem en5 : Enters Yba.prog 5 := enters_of Yba.func5 (by kernel_rfl) rfl
theorem en6 : Enters Yba.prog 6 := enters_of Yba.func6 (by kernel_rfl) rfl
theorem en7 : Enters Yba.prog 7 := enters_of Yba.func7 (by kernel_rfl) rfl
theorem en8 : Enters Yba.prog 8 := enters_of Yba.func8 (by kernel_rfl) rfl
theorem en9 : Enters Yba.prog 9 := enters_of Yba.func9 (by kernel_rfl) rfl
theorem en10 : Enters Yba.prog 10 := enters_of Yba.func10 (by kernel_rfl) rfl
theorem en12 : Enters Yba.prog 12 := enters_of Yba.func12 (by kernel_rfl) rfl
theorem en13 : Enters Yba.prog 13 := enters_of Yba.func13 (by kernel_rfl) rfl
theorem en14 : Enters Yba.prog 14 := enters_of Yba.func14 (by kernel_rfl) rfl
theorem en15 : Enters Yba.prog 15 := enters_of Yba.func15 (by kernel_rfl) rfl
theorem en18 : Enters Yba.prog 18 := enters_of Yba.func18 (by kernel_rfl) rfl
theorem en29 : Enters Yba.prog 29 := enters_of Yba.func29 (by kernel_rfl) rfl
theorem en30 : Enters Yba.prog 30 := enters_of Yba.func30 (by kernel_rfl) rfl
theorem en31 : Enters Yba.prog 31 := enters_of Yba.func31 (by kernel_rfl) rfl
theorem en32 : Enters Yba.prog 32 := enters_of Yba.func32 (by kernel_rfl) rfl
theorem sl22 : IsSlice Yba.prog 22 := ⟨_, Yba.underlying22⟩
theorem sl27 : IsSlice Yba.prog 27 := ⟨_, Yba.underlying27⟩
theorem sl37 : IsSlice Yba.prog 37 := ⟨_, Yba.underlying37⟩
theorem pt23 : Yba.prog.underlying 23 = some (.pointer (Yba.prog.pointee 23)) := by kernel_rfl
theorem pt59 : Yba.prog.underlying 59 = some (.pointer (Yba.prog.pointee 59)) := by kernel_rfl
theorem mixed : Yba.prog.follows .mixedOrders = true := by kernel_rfl
end Go.Proofs.Ybulkgfau
