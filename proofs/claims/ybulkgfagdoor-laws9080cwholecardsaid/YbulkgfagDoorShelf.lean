/- strconv.Itoa by the shelf's contract, at this program's numbers (laid by the kit's lay-shelf and lay-plain; all but this one contract struck). -/
import Derived.Shelf.Strconv.Itoa0
import Derived.Shelf.Strconv.Itoa1
import Derived.Shelf.LaysM
import Derived.Shelf.Strconv.Itoa2
import Derived.Shelf.Strconv.Itoa3
import Derived.Test.YbulkgfagDoorProg
import Derived.Test.YbulkgfagDoorRows
namespace Go.Proofs
open Go.Shelf
/-- The name of strconv's table, as the row has it. -/
def YbulkgfagDoor.powName : String := YbulkgfagDoor.Rows.lawS9080CWholeRow.named.headD ""
def Ybad.laysM171_ren : Go.Shelf.Ren := ⟨fun | 171 => 15 | 243 => 17 | 246 => 18 | 283 => 19 | 284 => 20 | 285 => 21 | 286 => 22 | 129 => 24 | 317 => 23 | 318 => 25 | 319 => 26 | 320 => 27 | 337 => 28 | 338 => 29 | n => n, fun | 3 => 3 | 9 => 9 | 2 => 2 | 4 => 4 | 171 => 69 | 0 => 0 | 53 => 61 | 37 => 23 | 5 => 5 | 173 => 72 | 212 => 76 | 51 => 77 | 20 => 20 | 213 => 78 | 46 => 62 | 232 => 82 | 233 => 83 | n => n, fun | 17 => 0 | 18 => 1 | 19 => 2 | n => n⟩
theorem Ybad.laysM171 : Go.Proofs.LaysM.n171 Ybad.prog Ybad.laysM171_ren := {
  mixed := by kernel_rfl
  f129 := Ybad.func24.trans (congrArg some (by kernel_rfl))
  f171 := Ybad.func15.trans (congrArg some (by kernel_rfl))
  f243 := Ybad.func17.trans (congrArg some (by kernel_rfl))
  f246 := Ybad.func18.trans (congrArg some (by kernel_rfl))
  f283 := Ybad.func19.trans (congrArg some (by kernel_rfl))
  f284 := Ybad.func20.trans (congrArg some (by kernel_rfl))
  f285 := Ybad.func21.trans (congrArg some (by kernel_rfl))
  f286 := Ybad.func22.trans (congrArg some (by kernel_rfl))
  f317 := Ybad.func23.trans (congrArg some (by kernel_rfl))
  f318 := Ybad.func25.trans (congrArg some (by kernel_rfl))
  f319 := Ybad.func26.trans (congrArg some (by kernel_rfl))
  f320 := Ybad.func27.trans (congrArg some (by kernel_rfl))
  f337 := Ybad.func28.trans (congrArg some (by kernel_rfl))
  f338 := Ybad.func29.trans (congrArg some (by kernel_rfl))
  t0 := Ybad.underlying0
  a0 := Ybad.isAgg0
  z0 := Ybad.sizeOf0
  v0 := Ybad.zeroValue0
  t2 := Ybad.underlying2
  a2 := Ybad.isAgg2
  z2 := Ybad.sizeOf2
  v2 := Ybad.zeroValue2
  t3 := Ybad.underlying3
  a3 := Ybad.isAgg3
  z3 := Ybad.sizeOf3
  v3 := Ybad.zeroValue3
  t4 := Ybad.underlying4
  a4 := Ybad.isAgg4
  z4 := Ybad.sizeOf4
  v4 := Ybad.zeroValue4
  t5 := Ybad.underlying5
  a5 := Ybad.isAgg5
  z5 := Ybad.sizeOf5
  v5 := Ybad.zeroValue5
  t9 := Ybad.underlying9
  a9 := Ybad.isAgg9
  z9 := Ybad.sizeOf9
  v9 := Ybad.zeroValue9
  t20 := Ybad.underlying20
  a20 := Ybad.isAgg20
  z20 := Ybad.sizeOf20
  v20 := Ybad.zeroValue20
  t37 := Ybad.underlying23
  a37 := Ybad.isAgg23
  z37 := Ybad.sizeOf23
  v37 := Ybad.zeroValue23
  t46 := Ybad.underlying62
  a46 := Ybad.isAgg62
  z46 := Ybad.sizeOf62
  v46 := Ybad.zeroValue62
  t51 := Ybad.underlying77
  a51 := Ybad.isAgg77
  z51 := Ybad.sizeOf77
  v51 := Ybad.zeroValue77
  t53 := Ybad.underlying61
  a53 := Ybad.isAgg61
  z53 := Ybad.sizeOf61
  v53 := Ybad.zeroValue61
  t171 := Ybad.underlying69
  a171 := Ybad.isAgg69
  z171 := Ybad.sizeOf69
  v171 := Ybad.zeroValue69
  t173 := Ybad.underlying72
  a173 := Ybad.isAgg72
  z173 := Ybad.sizeOf72
  v173 := Ybad.zeroValue72
  t212 := Ybad.underlying76
  a212 := Ybad.isAgg76
  z212 := Ybad.sizeOf76
  v212 := Ybad.zeroValue76
  t213 := Ybad.underlying78
  a213 := Ybad.isAgg78
  z213 := Ybad.sizeOf78
  t232 := Ybad.underlying82
  a232 := Ybad.isAgg82
  z232 := Ybad.sizeOf82
  v232 := Ybad.zeroValue82
  t233 := Ybad.underlying83
  a233 := Ybad.isAgg83
  z233 := Ybad.sizeOf83
  v233 := Ybad.zeroValue83
  g17 := by kernel_rfl
  g18 := by kernel_rfl
  g19 := by kernel_rfl
  i0 := by kernel_rfl
  i2 := by kernel_rfl
  i3 := by kernel_rfl
  i4 := by kernel_rfl
  i5 := by kernel_rfl
  i9 := by kernel_rfl
  i20 := by kernel_rfl
  i37 := by kernel_rfl
  i46 := by kernel_rfl
  i51 := by kernel_rfl
  i53 := by kernel_rfl
  i171 := by kernel_rfl
  i173 := by kernel_rfl
  i212 := by kernel_rfl
  i232 := by kernel_rfl
  i233 := by kernel_rfl
  m17 := by kernel_rfl
  m18 := by kernel_rfl
  m19 := by kernel_rfl }
open Go.RowKit Go.Sort Go.Lib in
theorem Ybad.strconv_Itoa (n : Int) (h0 : -9223372036854775808 ≤ n) (h1 : n ≤ 9223372036854775807) (w : World) (htab : Lib.TabIs Ybad.prog w YbulkgfagDoor.powName .u64 Lib.pow10Tab) :
    Calls Ybad.prog 15 #[.int .i64 n] w fun e w' => e = .returned (.string ⟨(Lib.itoa n).toArray⟩) ∧ ∃ k os, w' = grow (w.drewN k) os := Any.strconv_Itoa Ybad.laysM171 n h0 h1 w htab
end Go.Proofs
