/- Closed facts on the program's types and functions. -/
import Derived.Test.YbulkgfdmProg
import Derived.Test.YbulkgfdmOps
namespace Go.Proofs.Ybulkgfdm
open Go Go.Fr
theorem na1 : aggB Yba.prog 1 = some false := by kernel_rfl
theorem sz1 : sizeB Yba.prog 1 = some 1 := by kernel_rfl
theorem in1 : infoB Yba.prog 1 = some (some (.nilFunc), 1, 8) := by kernel_rfl
theorem na2 : aggB Yba.prog 2 = some false := by kernel_rfl
theorem sz2 : sizeB Yba.prog 2 = some 1 := by kernel_rfl
theorem in2 : infoB Yba.prog 2 = some (some (.int .i64 0), 1, 8) := by kernel_rfl
theorem na3 : aggB Yba.prog 3 = some false := by kernel_rfl
theorem sz3 : sizeB Yba.prog 3 = some 1 := by kernel_rfl
theorem in3 : infoB Yba.prog 3 = some (some (.int .i64 0), 1, 8) := by kernel_rfl
theorem na4 : aggB Yba.prog 4 = some false := by kernel_rfl
theorem sz4 : sizeB Yba.prog 4 = some 1 := by kernel_rfl
theorem in4 : infoB Yba.prog 4 = some (some (.bool false), 1, 1) := by kernel_rfl
theorem na5 : aggB Yba.prog 5 = some false := by kernel_rfl
theorem sz5 : sizeB Yba.prog 5 = some 1 := by kernel_rfl
theorem in5 : infoB Yba.prog 5 = some (some (.int .u8 0), 1, 1) := by kernel_rfl
theorem na9 : aggB Yba.prog 9 = some false := by kernel_rfl
theorem sz9 : sizeB Yba.prog 9 = some 1 := by kernel_rfl
theorem in9 : infoB Yba.prog 9 = some (some (.string ⟨#[]⟩), 1, 16) := by kernel_rfl
theorem na20 : aggB Yba.prog 20 = some false := by kernel_rfl
theorem sz20 : sizeB Yba.prog 20 = some 1 := by kernel_rfl
theorem in20 : infoB Yba.prog 20 = some (some (.nilIface), 1, 16) := by kernel_rfl
theorem na22 : aggB Yba.prog 22 = some false := by kernel_rfl
theorem sz22 : sizeB Yba.prog 22 = some 1 := by kernel_rfl
theorem in22 : infoB Yba.prog 22 = some (some (.slice none 0 0), 1, 24) := by kernel_rfl
theorem na23 : aggB Yba.prog 23 = some false := by kernel_rfl
theorem sz23 : sizeB Yba.prog 23 = some 1 := by kernel_rfl
theorem in23 : infoB Yba.prog 23 = some (some (.slice none 0 0), 1, 24) := by kernel_rfl
theorem na24 : aggB Yba.prog 24 = some false := by kernel_rfl
theorem sz24 : sizeB Yba.prog 24 = some 1 := by kernel_rfl
theorem in24 : infoB Yba.prog 24 = some (some (.int .i64 0), 1, 8) := by kernel_rfl
theorem na25 : aggB Yba.prog 25 = some false := by kernel_rfl
theorem sz25 : sizeB Yba.prog 25 = some 1 := by kernel_rfl
theorem in25 : infoB Yba.prog 25 = some (some (.int .u64 0), 1, 8) := by kernel_rfl
theorem na26 : aggB Yba.prog 26 = some false := by kernel_rfl
theorem sz26 : sizeB Yba.prog 26 = some 1 := by kernel_rfl
theorem in26 : infoB Yba.prog 26 = some (some (.pointer none), 1, 8) := by kernel_rfl
theorem na27 : aggB Yba.prog 27 = some false := by kernel_rfl
theorem sz27 : sizeB Yba.prog 27 = some 1 := by kernel_rfl
theorem in27 : infoB Yba.prog 27 = some (some (.slice none 0 0), 1, 24) := by kernel_rfl
theorem na28 : aggB Yba.prog 28 = some false := by kernel_rfl
theorem sz28 : sizeB Yba.prog 28 = some 1 := by kernel_rfl
theorem in28 : infoB Yba.prog 28 = some (some (.slice none 0 0), 1, 24) := by kernel_rfl
theorem na30 : aggB Yba.prog 30 = some true := by kernel_rfl
theorem sz30 : sizeB Yba.prog 30 = some 3 := by kernel_rfl
theorem in30 : infoB Yba.prog 30 = some (some (.agg #[.int .i64 0, .slice none 0 0, .int .u64 0]), 3, 40) := by kernel_rfl
theorem na32 : aggB Yba.prog 32 = some false := by kernel_rfl
theorem sz32 : sizeB Yba.prog 32 = some 1 := by kernel_rfl
theorem in32 : infoB Yba.prog 32 = some (some (.nilIface), 1, 16) := by kernel_rfl
theorem na33 : aggB Yba.prog 33 = some false := by kernel_rfl
theorem sz33 : sizeB Yba.prog 33 = some 1 := by kernel_rfl
theorem in33 : infoB Yba.prog 33 = some (some (.nilFunc), 1, 8) := by kernel_rfl
theorem na34 : aggB Yba.prog 34 = some false := by kernel_rfl
theorem sz34 : sizeB Yba.prog 34 = some 1 := by kernel_rfl
theorem in34 : infoB Yba.prog 34 = some (some (.pointer none), 1, 8) := by kernel_rfl
theorem na36 : aggB Yba.prog 36 = some false := by kernel_rfl
theorem sz36 : sizeB Yba.prog 36 = some 1 := by kernel_rfl
theorem in36 : infoB Yba.prog 36 = some (some (.string ⟨#[]⟩), 1, 16) := by kernel_rfl
theorem na37 : aggB Yba.prog 37 = some true := by kernel_rfl
theorem sz37 : sizeB Yba.prog 37 = some 3 := by kernel_rfl
theorem in37 : infoB Yba.prog 37 = some (some (.agg #[.string ⟨#[]⟩, .string ⟨#[]⟩, .string ⟨#[]⟩]), 3, 48) := by kernel_rfl
theorem na38 : aggB Yba.prog 38 = some true := by kernel_rfl
theorem sz38 : sizeB Yba.prog 38 = some 3 := by kernel_rfl
theorem in38 : infoB Yba.prog 38 = some (some (.agg #[.string ⟨#[]⟩, .string ⟨#[]⟩, .string ⟨#[]⟩]), 3, 48) := by kernel_rfl
theorem na39 : aggB Yba.prog 39 = some false := by kernel_rfl
theorem sz39 : sizeB Yba.prog 39 = some 1 := by kernel_rfl
theorem in39 : infoB Yba.prog 39 = some (some (.slice none 0 0), 1, 24) := by kernel_rfl
theorem na41 : aggB Yba.prog 41 = some true := by kernel_rfl
theorem sz41 : sizeB Yba.prog 41 = some 3 := by kernel_rfl
theorem in41 : infoB Yba.prog 41 = some (some (.agg #[.int .u8 0, .int .u8 0, .int .i64 0]), 3, 16) := by kernel_rfl
theorem na42 : aggB Yba.prog 42 = some false := by kernel_rfl
theorem sz42 : sizeB Yba.prog 42 = some 1 := by kernel_rfl
theorem in42 : infoB Yba.prog 42 = some (some (.pointer none), 1, 8) := by kernel_rfl
theorem na44 : aggB Yba.prog 44 = some false := by kernel_rfl
theorem sz44 : sizeB Yba.prog 44 = some 1 := by kernel_rfl
theorem in44 : infoB Yba.prog 44 = some (some (.int .u32 0), 1, 4) := by kernel_rfl
theorem na46 : aggB Yba.prog 46 = some true := by kernel_rfl
theorem sz46 : sizeB Yba.prog 46 = some 3 := by kernel_rfl
theorem in46 : infoB Yba.prog 46 = some (some (.agg #[.int .u8 0, .int .u32 0, .bool false]), 3, 12) := by kernel_rfl
theorem na48 : aggB Yba.prog 48 = some true := by kernel_rfl
theorem sz48 : sizeB Yba.prog 48 = some 6 := by kernel_rfl
theorem in48 : infoB Yba.prog 48 = some (some (.agg #[.string ⟨#[]⟩, .string ⟨#[]⟩, .int .u8 0, .int .u32 0, .bool false, .bool false]), 6, 48) := by kernel_rfl
theorem na50 : aggB Yba.prog 50 = some false := by kernel_rfl
theorem sz50 : sizeB Yba.prog 50 = some 1 := by kernel_rfl
theorem in50 : infoB Yba.prog 50 = some (some (.int .u8 0), 1, 1) := by kernel_rfl
theorem na52 : aggB Yba.prog 52 = some true := by kernel_rfl
theorem sz52 : sizeB Yba.prog 52 = some 6 := by kernel_rfl
theorem in52 : infoB Yba.prog 52 = some (some (.agg #[.string ⟨#[]⟩, .int .u8 0, .int .u32 0, .bool false, .bool false, .bool false]), 6, 32) := by kernel_rfl
theorem na54 : aggB Yba.prog 54 = some true := by kernel_rfl
theorem sz54 : sizeB Yba.prog 54 = some 8 := by kernel_rfl
theorem in54 : infoB Yba.prog 54 = some (some (.agg #[.int .u8 0, .int .u8 0, .string ⟨#[]⟩, .int .u8 0, .int .u32 0, .bool false, .bool false, .bool false]), 8, 40) := by kernel_rfl
theorem na55 : aggB Yba.prog 55 = some true := by kernel_rfl
theorem sz55 : sizeB Yba.prog 55 = some 128 := by kernel_rfl
theorem na56 : aggB Yba.prog 56 = some false := by kernel_rfl
theorem sz56 : sizeB Yba.prog 56 = some 1 := by kernel_rfl
theorem in56 : infoB Yba.prog 56 = some (some (.map none), 1, 8) := by kernel_rfl
theorem na58 : aggB Yba.prog 58 = some true := by kernel_rfl
theorem sz58 : sizeB Yba.prog 58 = some 132 := by kernel_rfl
theorem na61 : aggB Yba.prog 61 = some true := by kernel_rfl
theorem sz61 : sizeB Yba.prog 61 = some 8 := by kernel_rfl
theorem in61 : infoB Yba.prog 61 = some (some (.agg #[.string ⟨#[]⟩, .string ⟨#[]⟩, .int .u8 0, .int .u32 0, .bool false, .bool false, .int .i64 0, .int .i64 0]), 8, 64) := by kernel_rfl
theorem na63 : aggB Yba.prog 63 = some true := by kernel_rfl
theorem sz63 : sizeB Yba.prog 63 = some 3 := by kernel_rfl
theorem in63 : infoB Yba.prog 63 = some (some (.agg #[.int .u8 0, .int .u8 0, .string ⟨#[]⟩]), 3, 24) := by kernel_rfl
theorem na64 : aggB Yba.prog 64 = some false := by kernel_rfl
theorem sz64 : sizeB Yba.prog 64 = some 1 := by kernel_rfl
theorem in64 : infoB Yba.prog 64 = some (some (.slice none 0 0), 1, 24) := by kernel_rfl
theorem na66 : aggB Yba.prog 66 = some true := by kernel_rfl
theorem sz66 : sizeB Yba.prog 66 = some 1 := by kernel_rfl
theorem in66 : infoB Yba.prog 66 = some (some (.agg #[.slice none 0 0]), 1, 24) := by kernel_rfl
theorem na68 : aggB Yba.prog 68 = some false := by kernel_rfl
theorem sz68 : sizeB Yba.prog 68 = some 1 := by kernel_rfl
theorem in68 : infoB Yba.prog 68 = some (some (.slice none 0 0), 1, 24) := by kernel_rfl
theorem na70 : aggB Yba.prog 70 = some true := by kernel_rfl
theorem sz70 : sizeB Yba.prog 70 = some 7 := by kernel_rfl
theorem in70 : infoB Yba.prog 70 = some (some (.agg #[.string ⟨#[]⟩, .string ⟨#[]⟩, .int .u8 0, .int .u32 0, .bool false, .bool false, .int .i64 0]), 7, 56) := by kernel_rfl
theorem na73 : aggB Yba.prog 73 = some true := by kernel_rfl
theorem sz73 : sizeB Yba.prog 73 = some 4 := by kernel_rfl
theorem in73 : infoB Yba.prog 73 = some (some (.agg #[.int .i64 0, .int .u64 0, .int .i64 0, .nilFunc]), 4, 32) := by kernel_rfl
theorem na75 : aggB Yba.prog 75 = some false := by kernel_rfl
theorem sz75 : sizeB Yba.prog 75 = some 1 := by kernel_rfl
theorem in75 : infoB Yba.prog 75 = some (some (.pointer none), 1, 8) := by kernel_rfl
theorem na79 : aggB Yba.prog 79 = some true := by kernel_rfl
theorem sz79 : sizeB Yba.prog 79 = some 7 := by kernel_rfl
theorem in79 : infoB Yba.prog 79 = some (some (.agg #[.string ⟨#[]⟩, .string ⟨#[]⟩, .int .u8 0, .int .u32 0, .bool false, .bool false, .int .i64 0]), 7, 56) := by kernel_rfl
theorem na82 : aggB Yba.prog 82 = some false := by kernel_rfl
theorem sz82 : sizeB Yba.prog 82 = some 1 := by kernel_rfl
theorem in82 : infoB Yba.prog 82 = some (some (.nilIface), 1, 16) := by kernel_rfl
theorem na86 : aggB Yba.prog 86 = some false := by kernel_rfl
theorem sz86 : sizeB Yba.prog 86 = some 1 := by kernel_rfl
theorem in86 : infoB Yba.prog 86 = some (some (.slice none 0 0), 1, 24) := by kernel_rfl
theorem na90 : aggB Yba.prog 90 = some false := by kernel_rfl
theorem sz90 : sizeB Yba.prog 90 = some 1 := by kernel_rfl
theorem in90 : infoB Yba.prog 90 = some (some (.nilFunc), 1, 8) := by kernel_rfl
theorem na97 : aggB Yba.prog 97 = some false := by kernel_rfl
theorem sz97 : sizeB Yba.prog 97 = some 1 := by kernel_rfl
theorem in97 : infoB Yba.prog 97 = some (some (.int .u64 0), 1, 8) := by kernel_rfl
theorem na113 : aggB Yba.prog 113 = some false := by kernel_rfl
theorem sz113 : sizeB Yba.prog 113 = some 1 := by kernel_rfl
theorem in113 : infoB Yba.prog 113 = some (some (.slice none 0 0), 1, 24) := by kernel_rfl
theorem fl30_0 : fieldB Yba.prog 30 0 = some 0 := by kernel_rfl
theorem fl30_1 : fieldB Yba.prog 30 1 = some 1 := by kernel_rfl
theorem fl30_2 : fieldB Yba.prog 30 2 = some 2 := by kernel_rfl
theorem fl41_0 : fieldB Yba.prog 41 0 = some 0 := by kernel_rfl
theorem fl41_1 : fieldB Yba.prog 41 1 = some 1 := by kernel_rfl
theorem fl41_2 : fieldB Yba.prog 41 2 = some 2 := by kernel_rfl
theorem fl58_0 : fieldB Yba.prog 58 0 = some 0 := by kernel_rfl
theorem fl58_1 : fieldB Yba.prog 58 1 = some 1 := by kernel_rfl
theorem fl58_2 : fieldB Yba.prog 58 2 = some 2 := by kernel_rfl
theorem fl58_3 : fieldB Yba.prog 58 3 = some 130 := by kernel_rfl
theorem fl58_4 : fieldB Yba.prog 58 4 = some 131 := by kernel_rfl
theorem fl61_0 : fieldB Yba.prog 61 0 = some 0 := by kernel_rfl
theorem fl61_1 : fieldB Yba.prog 61 1 = some 6 := by kernel_rfl
theorem fl61_2 : fieldB Yba.prog 61 2 = some 7 := by kernel_rfl
theorem fl63_0 : fieldB Yba.prog 63 0 = some 0 := by kernel_rfl
theorem fl63_1 : fieldB Yba.prog 63 1 = some 1 := by kernel_rfl
theorem fl63_2 : fieldB Yba.prog 63 2 = some 2 := by kernel_rfl
theorem fl66_0 : fieldB Yba.prog 66 0 = some 0 := by kernel_rfl
theorem fl73_0 : fieldB Yba.prog 73 0 = some 0 := by kernel_rfl
theorem fl73_1 : fieldB Yba.prog 73 1 = some 1 := by kernel_rfl
theorem fl73_2 : fieldB Yba.prog 73 2 = some 2 := by kernel_rfl
theorem fl73_3 : fieldB Yba.prog 73 3 = some 3 := by kernel_rfl
theorem en3 : Enters Yba.prog 3 := enters_of Yba.func3 (by kernel_rfl) rfl
theorem en4 : Enters Yba.prog 4 := enters_of Yba.func4 (by kernel_rfl) rfl
theorem en5 : Enters Yba.prog 5 := enters_of Yba.func5 (by kernel_rfl) rfl
theorem en6 : Enters Yba.prog 6 := enters_of Yba.func6 (by kernel_rfl) rfl
theorem en7 : Enters Yba.prog 7 := enters_of Yba.func7 (by kernel_rfl) rfl
theorem en8 : Enters Yba.prog 8 := enters_of Yba.func8 (by kernel_rfl) rfl
theorem en9 : Enters Yba.prog 9 := enters_of Yba.func9 (by kernel_rfl) rfl
theorem en10 : Enters Yba.prog 10 := enters_of Yba.func10 (by kernel_rfl) rfl
theorem en11 : Enters Yba.prog 11 := enters_of Yba.func11 (by kernel_rfl) rfl
theorem en12 : Enters Yba.prog 12 := enters_of Yba.func12 (by kernel_rfl) rfl
theorem en13 : Enters Yba.prog 13 := enters_of Yba.func13 (by kernel_rfl) rfl
theorem en14 : Enters Yba.prog 14 := enters_of Yba.func14 (by kernel_rfl) rfl
theorem en15 : Enters Yba.prog 15 := enters_of Yba.func15 (by kernel_rfl) rfl
theorem en16 : Enters Yba.prog 16 := enters_of Yba.func16 (by kernel_rfl) rfl
theorem en17 : Enters Yba.prog 17 := enters_of Yba.func17 (by kernel_rfl) rfl
theorem en18 : Enters Yba.prog 18 := enters_of Yba.func18 (by kernel_rfl) rfl
theorem en19 : Enters Yba.prog 19 := enters_of Yba.func19 (by kernel_rfl) rfl
theorem en20 : Enters Yba.prog 20 := enters_of Yba.func20 (by kernel_rfl) rfl
theorem en21 : Enters Yba.prog 21 := enters_of Yba.func21 (by kernel_rfl) rfl
theorem en22 : Enters Yba.prog 22 := enters_of Yba.func22 (by kernel_rfl) rfl
theorem en23 : Enters Yba.prog 23 := enters_of Yba.func23 (by kernel_rfl) rfl
theorem en24 : Enters Yba.prog 24 := enters_of Yba.func24 (by kernel_rfl) rfl
theorem en25 : Enters Yba.prog 25 := enters_of Yba.func25 (by kernel_rfl) rfl
theorem en26 : Enters Yba.prog 26 := enters_of Yba.func26 (by kernel_rfl) rfl
theorem en35 : Enters Yba.prog 35 := enters_of Yba.func35 (by kernel_rfl) rfl
theorem en36 : Enters Yba.prog 36 := enters_of Yba.func36 (by kernel_rfl) rfl
theorem en37 : Enters Yba.prog 37 := enters_of Yba.func37 (by kernel_rfl) rfl
theorem en63 : Enters Yba.prog 63 := enters_of Yba.func63 (by kernel_rfl) rfl
theorem en64 : Enters Yba.prog 64 := enters_of Yba.func64 (by kernel_rfl) rfl
theorem en65 : Enters Yba.prog 65 := enters_of Yba.func65 (by kernel_rfl) rfl
theorem en71 : Enters Yba.prog 71 := enters_of Yba.func71 (by kernel_rfl) rfl
theorem en72 : Enters Yba.prog 72 := enters_of Yba.func72 (by kernel_rfl) rfl
theorem sl22 : IsSlice Yba.prog 22 := ⟨_, Yba.underlying22⟩
theorem sl23 : IsSlice Yba.prog 23 := ⟨_, Yba.underlying23⟩
theorem sl27 : IsSlice Yba.prog 27 := ⟨_, Yba.underlying27⟩
theorem sl28 : IsSlice Yba.prog 28 := ⟨_, Yba.underlying28⟩
theorem sl39 : IsSlice Yba.prog 39 := ⟨_, Yba.underlying39⟩
theorem sl64 : IsSlice Yba.prog 64 := ⟨_, Yba.underlying64⟩
theorem sl68 : IsSlice Yba.prog 68 := ⟨_, Yba.underlying68⟩
theorem sl86 : IsSlice Yba.prog 86 := ⟨_, Yba.underlying86⟩
theorem sl113 : IsSlice Yba.prog 113 := ⟨_, Yba.underlying113⟩
theorem pt26 : Yba.prog.underlying 26 = some (.pointer (Yba.prog.pointee 26)) := by kernel_rfl
theorem ip26 : (Yba.prog.info? (Yba.prog.pointee 26)).isSome = true := by kernel_rfl
theorem pt34 : Yba.prog.underlying 34 = some (.pointer (Yba.prog.pointee 34)) := by kernel_rfl
theorem ip34 : (Yba.prog.info? (Yba.prog.pointee 34)).isSome = true := by kernel_rfl
theorem pt42 : Yba.prog.underlying 42 = some (.pointer (Yba.prog.pointee 42)) := by kernel_rfl
theorem ip42 : (Yba.prog.info? (Yba.prog.pointee 42)).isSome = true := by kernel_rfl
theorem mixed : Yba.prog.follows .mixedOrders = true := by kernel_rfl
end Go.Proofs.Ybulkgfdm
