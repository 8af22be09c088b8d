/- cmp.Compare, cmp.Or, fireOrder. -/
import Derived.Test.YbulkgfdmMore
namespace Go.Proofs.Ybulkgfdm
open Go Go.Fr Go.RowKit

def cmpI (a b : Int) : Int := if a < b then -1 else if b < a then 1 else 0
/-- By the due time, then by the start. -/
def fo (da : Int) (sa : Nat) (db : Int) (sb : Nat) : Int := if cmpI da db ≠ 0 then cmpI da db else cmpI sa sb

theorem nanD (x : Int) (w : World) : Calls Yba.prog 36 #[.int .i64 x] w fun e w' => e = .returned (.bool false) ∧ w' = w := by
  refine calls_of Yba.func36 rfl Yba.ntmps36 rfl ?_
  refine WC.seq (WC.region ?_)
  repeat (first | (refine WL.val ?_ ?_ (Runs.move rfl) ?_; rfl; rfl) | (refine WL.val ?_ ?_ (Runs.assign rfl) ?_; rfl; rfl) | (refine WL.val ?_ ?_ (Runs.extract rfl rfl) ?_; rfl; rfl) | (refine WL.val ?_ ?_ (Runs.nilCheck rfl) ?_; rfl; rfl) | (refine WL.val ?_ ?_ (Runs.pickT rfl rfl) ?_; rfl; rfl) | (refine WL.val ?_ ?_ (Runs.pickF rfl rfl) ?_; rfl; rfl) | (refine WL.val ?_ ?_ (Runs.len rfl sl22) ?_; rfl; rfl) | (refine WL.val ?_ ?_ (Runs.len rfl sl23) ?_; rfl; rfl) | (refine WL.val ?_ ?_ (Runs.len rfl sl27) ?_; rfl; rfl) | (refine WL.val ?_ ?_ (Runs.len rfl sl28) ?_; rfl; rfl) | (refine WL.val ?_ ?_ (Runs.len rfl sl39) ?_; rfl; rfl) | (refine WL.val ?_ ?_ (Runs.len rfl sl64) ?_; rfl; rfl) | (refine WL.val ?_ ?_ (Runs.len rfl sl68) ?_; rfl; rfl) | (refine WL.val ?_ ?_ (Runs.len rfl sl86) ?_; rfl; rfl) | (refine WL.val ?_ ?_ (Runs.len rfl sl113) ?_; rfl; rfl) | (refine WL.pass ?_ ?_ ?_; rfl; rfl))
  refine WL.nil ?_
  repeat (first | refine AtExit.thenRet ?_ | refine AtExit.thenExit ?_ | refine AtExit.blockRet ?_ | refine AtExit.blockEnd ?_ | refine AtExit.blockExit ?_ | (refine AtExit.blockPast ?_ ?_; rfl))
  refine AtExit.go ?_
  refine WC.seq (WC.region ?_)
  repeat (first | (refine WL.val ?_ ?_ (Runs.move rfl) ?_; rfl; rfl) | (refine WL.val ?_ ?_ (Runs.assign rfl) ?_; rfl; rfl) | (refine WL.val ?_ ?_ (Runs.extract rfl rfl) ?_; rfl; rfl) | (refine WL.val ?_ ?_ (Runs.nilCheck rfl) ?_; rfl; rfl) | (refine WL.val ?_ ?_ (Runs.pickT rfl rfl) ?_; rfl; rfl) | (refine WL.val ?_ ?_ (Runs.pickF rfl rfl) ?_; rfl; rfl) | (refine WL.val ?_ ?_ (Runs.len rfl sl22) ?_; rfl; rfl) | (refine WL.val ?_ ?_ (Runs.len rfl sl23) ?_; rfl; rfl) | (refine WL.val ?_ ?_ (Runs.len rfl sl27) ?_; rfl; rfl) | (refine WL.val ?_ ?_ (Runs.len rfl sl28) ?_; rfl; rfl) | (refine WL.val ?_ ?_ (Runs.len rfl sl39) ?_; rfl; rfl) | (refine WL.val ?_ ?_ (Runs.len rfl sl64) ?_; rfl; rfl) | (refine WL.val ?_ ?_ (Runs.len rfl sl68) ?_; rfl; rfl) | (refine WL.val ?_ ?_ (Runs.len rfl sl86) ?_; rfl; rfl) | (refine WL.val ?_ ?_ (Runs.len rfl sl113) ?_; rfl; rfl) | (refine WL.pass ?_ ?_ ?_; rfl; rfl))
  refine WL.val rfl rfl (Runs.neq rfl rfl (r := false) (by simp)) ?_
  repeat (first | (refine WL.val ?_ ?_ (Runs.move rfl) ?_; rfl; rfl) | (refine WL.val ?_ ?_ (Runs.assign rfl) ?_; rfl; rfl) | (refine WL.val ?_ ?_ (Runs.extract rfl rfl) ?_; rfl; rfl) | (refine WL.val ?_ ?_ (Runs.nilCheck rfl) ?_; rfl; rfl) | (refine WL.val ?_ ?_ (Runs.pickT rfl rfl) ?_; rfl; rfl) | (refine WL.val ?_ ?_ (Runs.pickF rfl rfl) ?_; rfl; rfl) | (refine WL.val ?_ ?_ (Runs.len rfl sl22) ?_; rfl; rfl) | (refine WL.val ?_ ?_ (Runs.len rfl sl23) ?_; rfl; rfl) | (refine WL.val ?_ ?_ (Runs.len rfl sl27) ?_; rfl; rfl) | (refine WL.val ?_ ?_ (Runs.len rfl sl28) ?_; rfl; rfl) | (refine WL.val ?_ ?_ (Runs.len rfl sl39) ?_; rfl; rfl) | (refine WL.val ?_ ?_ (Runs.len rfl sl64) ?_; rfl; rfl) | (refine WL.val ?_ ?_ (Runs.len rfl sl68) ?_; rfl; rfl) | (refine WL.val ?_ ?_ (Runs.len rfl sl86) ?_; rfl; rfl) | (refine WL.val ?_ ?_ (Runs.len rfl sl113) ?_; rfl; rfl) | (refine WL.pass ?_ ?_ ?_; rfl; rfl))
  refine WL.nil ?_
  repeat (first | refine AtExit.thenRet ?_ | refine AtExit.thenExit ?_ | refine AtExit.blockRet ?_ | refine AtExit.blockEnd ?_ | refine AtExit.blockExit ?_ | (refine AtExit.blockPast ?_ ?_; rfl))
  refine AtExit.go ?_
  refine WC.ret ?_
  repeat (first | refine AtExit.thenRet ?_ | refine AtExit.thenExit ?_ | refine AtExit.blockRet ?_ | refine AtExit.blockEnd ?_ | refine AtExit.blockExit ?_ | (refine AtExit.blockPast ?_ ?_; rfl))
  exact post1 rfl rfl ⟨rfl, rfl⟩
theorem nanU (x : Int) (w : World) : Calls Yba.prog 37 #[.int .u64 x] w fun e w' => e = .returned (.bool false) ∧ w' = w := by
  refine calls_of Yba.func37 rfl Yba.ntmps37 rfl ?_
  refine WC.seq (WC.region ?_)
  repeat (first | (refine WL.val ?_ ?_ (Runs.move rfl) ?_; rfl; rfl) | (refine WL.val ?_ ?_ (Runs.assign rfl) ?_; rfl; rfl) | (refine WL.val ?_ ?_ (Runs.extract rfl rfl) ?_; rfl; rfl) | (refine WL.val ?_ ?_ (Runs.nilCheck rfl) ?_; rfl; rfl) | (refine WL.val ?_ ?_ (Runs.pickT rfl rfl) ?_; rfl; rfl) | (refine WL.val ?_ ?_ (Runs.pickF rfl rfl) ?_; rfl; rfl) | (refine WL.val ?_ ?_ (Runs.len rfl sl22) ?_; rfl; rfl) | (refine WL.val ?_ ?_ (Runs.len rfl sl23) ?_; rfl; rfl) | (refine WL.val ?_ ?_ (Runs.len rfl sl27) ?_; rfl; rfl) | (refine WL.val ?_ ?_ (Runs.len rfl sl28) ?_; rfl; rfl) | (refine WL.val ?_ ?_ (Runs.len rfl sl39) ?_; rfl; rfl) | (refine WL.val ?_ ?_ (Runs.len rfl sl64) ?_; rfl; rfl) | (refine WL.val ?_ ?_ (Runs.len rfl sl68) ?_; rfl; rfl) | (refine WL.val ?_ ?_ (Runs.len rfl sl86) ?_; rfl; rfl) | (refine WL.val ?_ ?_ (Runs.len rfl sl113) ?_; rfl; rfl) | (refine WL.pass ?_ ?_ ?_; rfl; rfl))
  refine WL.nil ?_
  repeat (first | refine AtExit.thenRet ?_ | refine AtExit.thenExit ?_ | refine AtExit.blockRet ?_ | refine AtExit.blockEnd ?_ | refine AtExit.blockExit ?_ | (refine AtExit.blockPast ?_ ?_; rfl))
  refine AtExit.go ?_
  refine WC.seq (WC.region ?_)
  repeat (first | (refine WL.val ?_ ?_ (Runs.move rfl) ?_; rfl; rfl) | (refine WL.val ?_ ?_ (Runs.assign rfl) ?_; rfl; rfl) | (refine WL.val ?_ ?_ (Runs.extract rfl rfl) ?_; rfl; rfl) | (refine WL.val ?_ ?_ (Runs.nilCheck rfl) ?_; rfl; rfl) | (refine WL.val ?_ ?_ (Runs.pickT rfl rfl) ?_; rfl; rfl) | (refine WL.val ?_ ?_ (Runs.pickF rfl rfl) ?_; rfl; rfl) | (refine WL.val ?_ ?_ (Runs.len rfl sl22) ?_; rfl; rfl) | (refine WL.val ?_ ?_ (Runs.len rfl sl23) ?_; rfl; rfl) | (refine WL.val ?_ ?_ (Runs.len rfl sl27) ?_; rfl; rfl) | (refine WL.val ?_ ?_ (Runs.len rfl sl28) ?_; rfl; rfl) | (refine WL.val ?_ ?_ (Runs.len rfl sl39) ?_; rfl; rfl) | (refine WL.val ?_ ?_ (Runs.len rfl sl64) ?_; rfl; rfl) | (refine WL.val ?_ ?_ (Runs.len rfl sl68) ?_; rfl; rfl) | (refine WL.val ?_ ?_ (Runs.len rfl sl86) ?_; rfl; rfl) | (refine WL.val ?_ ?_ (Runs.len rfl sl113) ?_; rfl; rfl) | (refine WL.pass ?_ ?_ ?_; rfl; rfl))
  refine WL.val rfl rfl (Runs.neq rfl rfl (r := false) (by simp)) ?_
  repeat (first | (refine WL.val ?_ ?_ (Runs.move rfl) ?_; rfl; rfl) | (refine WL.val ?_ ?_ (Runs.assign rfl) ?_; rfl; rfl) | (refine WL.val ?_ ?_ (Runs.extract rfl rfl) ?_; rfl; rfl) | (refine WL.val ?_ ?_ (Runs.nilCheck rfl) ?_; rfl; rfl) | (refine WL.val ?_ ?_ (Runs.pickT rfl rfl) ?_; rfl; rfl) | (refine WL.val ?_ ?_ (Runs.pickF rfl rfl) ?_; rfl; rfl) | (refine WL.val ?_ ?_ (Runs.len rfl sl22) ?_; rfl; rfl) | (refine WL.val ?_ ?_ (Runs.len rfl sl23) ?_; rfl; rfl) | (refine WL.val ?_ ?_ (Runs.len rfl sl27) ?_; rfl; rfl) | (refine WL.val ?_ ?_ (Runs.len rfl sl28) ?_; rfl; rfl) | (refine WL.val ?_ ?_ (Runs.len rfl sl39) ?_; rfl; rfl) | (refine WL.val ?_ ?_ (Runs.len rfl sl64) ?_; rfl; rfl) | (refine WL.val ?_ ?_ (Runs.len rfl sl68) ?_; rfl; rfl) | (refine WL.val ?_ ?_ (Runs.len rfl sl86) ?_; rfl; rfl) | (refine WL.val ?_ ?_ (Runs.len rfl sl113) ?_; rfl; rfl) | (refine WL.pass ?_ ?_ ?_; rfl; rfl))
  refine WL.nil ?_
  repeat (first | refine AtExit.thenRet ?_ | refine AtExit.thenExit ?_ | refine AtExit.blockRet ?_ | refine AtExit.blockEnd ?_ | refine AtExit.blockExit ?_ | (refine AtExit.blockPast ?_ ?_; rfl))
  refine AtExit.go ?_
  refine WC.ret ?_
  repeat (first | refine AtExit.thenRet ?_ | refine AtExit.thenExit ?_ | refine AtExit.blockRet ?_ | refine AtExit.blockEnd ?_ | refine AtExit.blockExit ?_ | (refine AtExit.blockPast ?_ ?_; rfl))
  exact post1 rfl rfl ⟨rfl, rfl⟩

theorem cmpD (a b : Int) (w : World) : Calls Yba.prog 23 #[.int .i64 a, .int .i64 b] w fun e w' => e = .returned (.int .i64 (cmpI a b)) ∧ w' = w := by
  refine calls_of Yba.func23 rfl Yba.ntmps23 rfl ?_
  refine WC.seq (WC.region ?_)
  repeat (first | (refine WL.val ?_ ?_ (Runs.move rfl) ?_; rfl; rfl) | (refine WL.val ?_ ?_ (Runs.assign rfl) ?_; rfl; rfl) | (refine WL.val ?_ ?_ (Runs.extract rfl rfl) ?_; rfl; rfl) | (refine WL.val ?_ ?_ (Runs.nilCheck rfl) ?_; rfl; rfl) | (refine WL.val ?_ ?_ (Runs.pickT rfl rfl) ?_; rfl; rfl) | (refine WL.val ?_ ?_ (Runs.pickF rfl rfl) ?_; rfl; rfl) | (refine WL.val ?_ ?_ (Runs.len rfl sl22) ?_; rfl; rfl) | (refine WL.val ?_ ?_ (Runs.len rfl sl23) ?_; rfl; rfl) | (refine WL.val ?_ ?_ (Runs.len rfl sl27) ?_; rfl; rfl) | (refine WL.val ?_ ?_ (Runs.len rfl sl28) ?_; rfl; rfl) | (refine WL.val ?_ ?_ (Runs.len rfl sl39) ?_; rfl; rfl) | (refine WL.val ?_ ?_ (Runs.len rfl sl64) ?_; rfl; rfl) | (refine WL.val ?_ ?_ (Runs.len rfl sl68) ?_; rfl; rfl) | (refine WL.val ?_ ?_ (Runs.len rfl sl86) ?_; rfl; rfl) | (refine WL.val ?_ ?_ (Runs.len rfl sl113) ?_; rfl; rfl) | (refine WL.pass ?_ ?_ ?_; rfl; rfl))
  refine WL.nil ?_
  repeat (first | refine AtExit.thenRet ?_ | refine AtExit.thenExit ?_ | refine AtExit.blockRet ?_ | refine AtExit.blockEnd ?_ | refine AtExit.blockExit ?_ | (refine AtExit.blockPast ?_ ?_; rfl))
  refine AtExit.go ?_
  refine WC.seq (WC.region ?_)
  repeat (first | (refine WL.val ?_ ?_ (Runs.move rfl) ?_; rfl; rfl) | (refine WL.val ?_ ?_ (Runs.assign rfl) ?_; rfl; rfl) | (refine WL.val ?_ ?_ (Runs.extract rfl rfl) ?_; rfl; rfl) | (refine WL.val ?_ ?_ (Runs.nilCheck rfl) ?_; rfl; rfl) | (refine WL.val ?_ ?_ (Runs.pickT rfl rfl) ?_; rfl; rfl) | (refine WL.val ?_ ?_ (Runs.pickF rfl rfl) ?_; rfl; rfl) | (refine WL.val ?_ ?_ (Runs.len rfl sl22) ?_; rfl; rfl) | (refine WL.val ?_ ?_ (Runs.len rfl sl23) ?_; rfl; rfl) | (refine WL.val ?_ ?_ (Runs.len rfl sl27) ?_; rfl; rfl) | (refine WL.val ?_ ?_ (Runs.len rfl sl28) ?_; rfl; rfl) | (refine WL.val ?_ ?_ (Runs.len rfl sl39) ?_; rfl; rfl) | (refine WL.val ?_ ?_ (Runs.len rfl sl64) ?_; rfl; rfl) | (refine WL.val ?_ ?_ (Runs.len rfl sl68) ?_; rfl; rfl) | (refine WL.val ?_ ?_ (Runs.len rfl sl86) ?_; rfl; rfl) | (refine WL.val ?_ ?_ (Runs.len rfl sl113) ?_; rfl; rfl) | (refine WL.pass ?_ ?_ ?_; rfl; rfl))
  refine WL.call rfl rfl (RunsC.call rfl en36) (nanD a w) ?_
  rintro e w1 ⟨rfl, rfl⟩
  refine ⟨_, rfl, ?_⟩
  repeat (first | (refine WL.val ?_ ?_ (Runs.move rfl) ?_; rfl; rfl) | (refine WL.val ?_ ?_ (Runs.assign rfl) ?_; rfl; rfl) | (refine WL.val ?_ ?_ (Runs.extract rfl rfl) ?_; rfl; rfl) | (refine WL.val ?_ ?_ (Runs.nilCheck rfl) ?_; rfl; rfl) | (refine WL.val ?_ ?_ (Runs.pickT rfl rfl) ?_; rfl; rfl) | (refine WL.val ?_ ?_ (Runs.pickF rfl rfl) ?_; rfl; rfl) | (refine WL.val ?_ ?_ (Runs.len rfl sl22) ?_; rfl; rfl) | (refine WL.val ?_ ?_ (Runs.len rfl sl23) ?_; rfl; rfl) | (refine WL.val ?_ ?_ (Runs.len rfl sl27) ?_; rfl; rfl) | (refine WL.val ?_ ?_ (Runs.len rfl sl28) ?_; rfl; rfl) | (refine WL.val ?_ ?_ (Runs.len rfl sl39) ?_; rfl; rfl) | (refine WL.val ?_ ?_ (Runs.len rfl sl64) ?_; rfl; rfl) | (refine WL.val ?_ ?_ (Runs.len rfl sl68) ?_; rfl; rfl) | (refine WL.val ?_ ?_ (Runs.len rfl sl86) ?_; rfl; rfl) | (refine WL.val ?_ ?_ (Runs.len rfl sl113) ?_; rfl; rfl) | (refine WL.pass ?_ ?_ ?_; rfl; rfl))
  refine WL.nil ?_
  repeat (first | refine AtExit.thenRet ?_ | refine AtExit.thenExit ?_ | refine AtExit.blockRet ?_ | refine AtExit.blockEnd ?_ | refine AtExit.blockExit ?_ | (refine AtExit.blockPast ?_ ?_; rfl))
  refine AtExit.go ?_
  refine WC.seq (WC.region ?_)
  repeat (first | (refine WL.val ?_ ?_ (Runs.move rfl) ?_; rfl; rfl) | (refine WL.val ?_ ?_ (Runs.assign rfl) ?_; rfl; rfl) | (refine WL.val ?_ ?_ (Runs.extract rfl rfl) ?_; rfl; rfl) | (refine WL.val ?_ ?_ (Runs.nilCheck rfl) ?_; rfl; rfl) | (refine WL.val ?_ ?_ (Runs.pickT rfl rfl) ?_; rfl; rfl) | (refine WL.val ?_ ?_ (Runs.pickF rfl rfl) ?_; rfl; rfl) | (refine WL.val ?_ ?_ (Runs.len rfl sl22) ?_; rfl; rfl) | (refine WL.val ?_ ?_ (Runs.len rfl sl23) ?_; rfl; rfl) | (refine WL.val ?_ ?_ (Runs.len rfl sl27) ?_; rfl; rfl) | (refine WL.val ?_ ?_ (Runs.len rfl sl28) ?_; rfl; rfl) | (refine WL.val ?_ ?_ (Runs.len rfl sl39) ?_; rfl; rfl) | (refine WL.val ?_ ?_ (Runs.len rfl sl64) ?_; rfl; rfl) | (refine WL.val ?_ ?_ (Runs.len rfl sl68) ?_; rfl; rfl) | (refine WL.val ?_ ?_ (Runs.len rfl sl86) ?_; rfl; rfl) | (refine WL.val ?_ ?_ (Runs.len rfl sl113) ?_; rfl; rfl) | (refine WL.pass ?_ ?_ ?_; rfl; rfl))
  refine WL.call rfl rfl (RunsC.call rfl en36) (nanD b w1) ?_
  rintro e w2 ⟨rfl, rfl⟩
  refine ⟨_, rfl, ?_⟩
  repeat (first | (refine WL.val ?_ ?_ (Runs.move rfl) ?_; rfl; rfl) | (refine WL.val ?_ ?_ (Runs.assign rfl) ?_; rfl; rfl) | (refine WL.val ?_ ?_ (Runs.extract rfl rfl) ?_; rfl; rfl) | (refine WL.val ?_ ?_ (Runs.nilCheck rfl) ?_; rfl; rfl) | (refine WL.val ?_ ?_ (Runs.pickT rfl rfl) ?_; rfl; rfl) | (refine WL.val ?_ ?_ (Runs.pickF rfl rfl) ?_; rfl; rfl) | (refine WL.val ?_ ?_ (Runs.len rfl sl22) ?_; rfl; rfl) | (refine WL.val ?_ ?_ (Runs.len rfl sl23) ?_; rfl; rfl) | (refine WL.val ?_ ?_ (Runs.len rfl sl27) ?_; rfl; rfl) | (refine WL.val ?_ ?_ (Runs.len rfl sl28) ?_; rfl; rfl) | (refine WL.val ?_ ?_ (Runs.len rfl sl39) ?_; rfl; rfl) | (refine WL.val ?_ ?_ (Runs.len rfl sl64) ?_; rfl; rfl) | (refine WL.val ?_ ?_ (Runs.len rfl sl68) ?_; rfl; rfl) | (refine WL.val ?_ ?_ (Runs.len rfl sl86) ?_; rfl; rfl) | (refine WL.val ?_ ?_ (Runs.len rfl sl113) ?_; rfl; rfl) | (refine WL.pass ?_ ?_ ?_; rfl; rfl))
  refine WL.nil ?_
  repeat (first | refine AtExit.thenRet ?_ | refine AtExit.thenExit ?_ | refine AtExit.blockRet ?_ | refine AtExit.blockEnd ?_ | refine AtExit.blockExit ?_ | (refine AtExit.blockPast ?_ ?_; rfl))
  refine AtExit.go ?_
  refine WC.seq ?_
  refine WC.seq (WC.region ?_)
  repeat (first | (refine WL.val ?_ ?_ (Runs.move rfl) ?_; rfl; rfl) | (refine WL.val ?_ ?_ (Runs.assign rfl) ?_; rfl; rfl) | (refine WL.val ?_ ?_ (Runs.extract rfl rfl) ?_; rfl; rfl) | (refine WL.val ?_ ?_ (Runs.nilCheck rfl) ?_; rfl; rfl) | (refine WL.val ?_ ?_ (Runs.pickT rfl rfl) ?_; rfl; rfl) | (refine WL.val ?_ ?_ (Runs.pickF rfl rfl) ?_; rfl; rfl) | (refine WL.val ?_ ?_ (Runs.len rfl sl22) ?_; rfl; rfl) | (refine WL.val ?_ ?_ (Runs.len rfl sl23) ?_; rfl; rfl) | (refine WL.val ?_ ?_ (Runs.len rfl sl27) ?_; rfl; rfl) | (refine WL.val ?_ ?_ (Runs.len rfl sl28) ?_; rfl; rfl) | (refine WL.val ?_ ?_ (Runs.len rfl sl39) ?_; rfl; rfl) | (refine WL.val ?_ ?_ (Runs.len rfl sl64) ?_; rfl; rfl) | (refine WL.val ?_ ?_ (Runs.len rfl sl68) ?_; rfl; rfl) | (refine WL.val ?_ ?_ (Runs.len rfl sl86) ?_; rfl; rfl) | (refine WL.val ?_ ?_ (Runs.len rfl sl113) ?_; rfl; rfl) | (refine WL.pass ?_ ?_ ?_; rfl; rfl))
  refine WL.nil ?_
  repeat (first | refine AtExit.thenRet ?_ | refine AtExit.thenExit ?_ | refine AtExit.blockRet ?_ | refine AtExit.blockEnd ?_ | refine AtExit.blockExit ?_ | (refine AtExit.blockPast ?_ ?_; rfl))
  refine AtExit.go ?_
  refine WC.condF rfl ?_
  refine WC.skip ?_
  repeat (first | refine AtExit.thenRet ?_ | refine AtExit.thenExit ?_ | refine AtExit.blockRet ?_ | refine AtExit.blockEnd ?_ | refine AtExit.blockExit ?_ | (refine AtExit.blockPast ?_ ?_; rfl))
  refine AtExit.go ?_
  refine WC.seq ?_
  refine WC.seq (WC.region ?_)
  repeat (first | (refine WL.val ?_ ?_ (Runs.move rfl) ?_; rfl; rfl) | (refine WL.val ?_ ?_ (Runs.assign rfl) ?_; rfl; rfl) | (refine WL.val ?_ ?_ (Runs.extract rfl rfl) ?_; rfl; rfl) | (refine WL.val ?_ ?_ (Runs.nilCheck rfl) ?_; rfl; rfl) | (refine WL.val ?_ ?_ (Runs.pickT rfl rfl) ?_; rfl; rfl) | (refine WL.val ?_ ?_ (Runs.pickF rfl rfl) ?_; rfl; rfl) | (refine WL.val ?_ ?_ (Runs.len rfl sl22) ?_; rfl; rfl) | (refine WL.val ?_ ?_ (Runs.len rfl sl23) ?_; rfl; rfl) | (refine WL.val ?_ ?_ (Runs.len rfl sl27) ?_; rfl; rfl) | (refine WL.val ?_ ?_ (Runs.len rfl sl28) ?_; rfl; rfl) | (refine WL.val ?_ ?_ (Runs.len rfl sl39) ?_; rfl; rfl) | (refine WL.val ?_ ?_ (Runs.len rfl sl64) ?_; rfl; rfl) | (refine WL.val ?_ ?_ (Runs.len rfl sl68) ?_; rfl; rfl) | (refine WL.val ?_ ?_ (Runs.len rfl sl86) ?_; rfl; rfl) | (refine WL.val ?_ ?_ (Runs.len rfl sl113) ?_; rfl; rfl) | (refine WL.pass ?_ ?_ ?_; rfl; rfl))
  refine WL.nil ?_
  repeat (first | refine AtExit.thenRet ?_ | refine AtExit.thenExit ?_ | refine AtExit.blockRet ?_ | refine AtExit.blockEnd ?_ | refine AtExit.blockExit ?_ | (refine AtExit.blockPast ?_ ?_; rfl))
  refine AtExit.go ?_
  refine WC.condF rfl ?_
  refine WC.skip ?_
  repeat (first | refine AtExit.thenRet ?_ | refine AtExit.thenExit ?_ | refine AtExit.blockRet ?_ | refine AtExit.blockEnd ?_ | refine AtExit.blockExit ?_ | (refine AtExit.blockPast ?_ ?_; rfl))
  refine AtExit.go ?_
  refine WC.seq ?_
  refine WC.seq (WC.region ?_)
  repeat (first | (refine WL.val ?_ ?_ (Runs.move rfl) ?_; rfl; rfl) | (refine WL.val ?_ ?_ (Runs.assign rfl) ?_; rfl; rfl) | (refine WL.val ?_ ?_ (Runs.extract rfl rfl) ?_; rfl; rfl) | (refine WL.val ?_ ?_ (Runs.nilCheck rfl) ?_; rfl; rfl) | (refine WL.val ?_ ?_ (Runs.pickT rfl rfl) ?_; rfl; rfl) | (refine WL.val ?_ ?_ (Runs.pickF rfl rfl) ?_; rfl; rfl) | (refine WL.val ?_ ?_ (Runs.len rfl sl22) ?_; rfl; rfl) | (refine WL.val ?_ ?_ (Runs.len rfl sl23) ?_; rfl; rfl) | (refine WL.val ?_ ?_ (Runs.len rfl sl27) ?_; rfl; rfl) | (refine WL.val ?_ ?_ (Runs.len rfl sl28) ?_; rfl; rfl) | (refine WL.val ?_ ?_ (Runs.len rfl sl39) ?_; rfl; rfl) | (refine WL.val ?_ ?_ (Runs.len rfl sl64) ?_; rfl; rfl) | (refine WL.val ?_ ?_ (Runs.len rfl sl68) ?_; rfl; rfl) | (refine WL.val ?_ ?_ (Runs.len rfl sl86) ?_; rfl; rfl) | (refine WL.val ?_ ?_ (Runs.len rfl sl113) ?_; rfl; rfl) | (refine WL.pass ?_ ?_ ?_; rfl; rfl))
  unfold cmpI
  by_cases h1 : a < b
  · rw [if_pos h1]
    refine WL.val rfl rfl (Runs.lss rfl rfl (dtrue h1)) ?_
    refine WL.nil ?_
    repeat (first | refine AtExit.thenRet ?_ | refine AtExit.thenExit ?_ | refine AtExit.blockRet ?_ | refine AtExit.blockEnd ?_ | refine AtExit.blockExit ?_ | (refine AtExit.blockPast ?_ ?_; rfl))
    refine AtExit.go ?_
    refine WC.condT rfl ?_
    refine WC.seq (WC.region ?_)
    repeat (first | (refine WL.val ?_ ?_ (Runs.move rfl) ?_; rfl; rfl) | (refine WL.val ?_ ?_ (Runs.assign rfl) ?_; rfl; rfl) | (refine WL.val ?_ ?_ (Runs.extract rfl rfl) ?_; rfl; rfl) | (refine WL.val ?_ ?_ (Runs.nilCheck rfl) ?_; rfl; rfl) | (refine WL.val ?_ ?_ (Runs.pickT rfl rfl) ?_; rfl; rfl) | (refine WL.val ?_ ?_ (Runs.pickF rfl rfl) ?_; rfl; rfl) | (refine WL.val ?_ ?_ (Runs.len rfl sl22) ?_; rfl; rfl) | (refine WL.val ?_ ?_ (Runs.len rfl sl23) ?_; rfl; rfl) | (refine WL.val ?_ ?_ (Runs.len rfl sl27) ?_; rfl; rfl) | (refine WL.val ?_ ?_ (Runs.len rfl sl28) ?_; rfl; rfl) | (refine WL.val ?_ ?_ (Runs.len rfl sl39) ?_; rfl; rfl) | (refine WL.val ?_ ?_ (Runs.len rfl sl64) ?_; rfl; rfl) | (refine WL.val ?_ ?_ (Runs.len rfl sl68) ?_; rfl; rfl) | (refine WL.val ?_ ?_ (Runs.len rfl sl86) ?_; rfl; rfl) | (refine WL.val ?_ ?_ (Runs.len rfl sl113) ?_; rfl; rfl) | (refine WL.pass ?_ ?_ ?_; rfl; rfl))
    refine WL.nil ?_
    repeat (first | refine AtExit.thenRet ?_ | refine AtExit.thenExit ?_ | refine AtExit.blockRet ?_ | refine AtExit.blockEnd ?_ | refine AtExit.blockExit ?_ | (refine AtExit.blockPast ?_ ?_; rfl))
    refine AtExit.go ?_
    refine WC.ret ?_
    repeat (first | refine AtExit.thenRet ?_ | refine AtExit.thenExit ?_ | refine AtExit.blockRet ?_ | refine AtExit.blockEnd ?_ | refine AtExit.blockExit ?_ | (refine AtExit.blockPast ?_ ?_; rfl))
    exact post1 rfl rfl ⟨rfl, rfl⟩
  · rw [if_neg h1]
    refine WL.val rfl rfl (Runs.lss rfl rfl (dfalse h1)) ?_
    refine WL.nil ?_
    repeat (first | refine AtExit.thenRet ?_ | refine AtExit.thenExit ?_ | refine AtExit.blockRet ?_ | refine AtExit.blockEnd ?_ | refine AtExit.blockExit ?_ | (refine AtExit.blockPast ?_ ?_; rfl))
    refine AtExit.go ?_
    refine WC.condF rfl ?_
    refine WC.skip ?_
    repeat (first | refine AtExit.thenRet ?_ | refine AtExit.thenExit ?_ | refine AtExit.blockRet ?_ | refine AtExit.blockEnd ?_ | refine AtExit.blockExit ?_ | (refine AtExit.blockPast ?_ ?_; rfl))
    refine AtExit.go ?_
    refine WC.seq ?_
    refine WC.seq (WC.region ?_)
    repeat (first | (refine WL.val ?_ ?_ (Runs.move rfl) ?_; rfl; rfl) | (refine WL.val ?_ ?_ (Runs.assign rfl) ?_; rfl; rfl) | (refine WL.val ?_ ?_ (Runs.extract rfl rfl) ?_; rfl; rfl) | (refine WL.val ?_ ?_ (Runs.nilCheck rfl) ?_; rfl; rfl) | (refine WL.val ?_ ?_ (Runs.pickT rfl rfl) ?_; rfl; rfl) | (refine WL.val ?_ ?_ (Runs.pickF rfl rfl) ?_; rfl; rfl) | (refine WL.val ?_ ?_ (Runs.len rfl sl22) ?_; rfl; rfl) | (refine WL.val ?_ ?_ (Runs.len rfl sl23) ?_; rfl; rfl) | (refine WL.val ?_ ?_ (Runs.len rfl sl27) ?_; rfl; rfl) | (refine WL.val ?_ ?_ (Runs.len rfl sl28) ?_; rfl; rfl) | (refine WL.val ?_ ?_ (Runs.len rfl sl39) ?_; rfl; rfl) | (refine WL.val ?_ ?_ (Runs.len rfl sl64) ?_; rfl; rfl) | (refine WL.val ?_ ?_ (Runs.len rfl sl68) ?_; rfl; rfl) | (refine WL.val ?_ ?_ (Runs.len rfl sl86) ?_; rfl; rfl) | (refine WL.val ?_ ?_ (Runs.len rfl sl113) ?_; rfl; rfl) | (refine WL.pass ?_ ?_ ?_; rfl; rfl))
    by_cases h2 : b < a
    · rw [if_pos h2]
      refine WL.val rfl rfl (Runs.gtr rfl rfl (dtrue h2)) ?_
      refine WL.nil ?_
      repeat (first | refine AtExit.thenRet ?_ | refine AtExit.thenExit ?_ | refine AtExit.blockRet ?_ | refine AtExit.blockEnd ?_ | refine AtExit.blockExit ?_ | (refine AtExit.blockPast ?_ ?_; rfl))
      refine AtExit.go ?_
      refine WC.condT rfl ?_
      refine WC.seq (WC.region ?_)
      repeat (first | (refine WL.val ?_ ?_ (Runs.move rfl) ?_; rfl; rfl) | (refine WL.val ?_ ?_ (Runs.assign rfl) ?_; rfl; rfl) | (refine WL.val ?_ ?_ (Runs.extract rfl rfl) ?_; rfl; rfl) | (refine WL.val ?_ ?_ (Runs.nilCheck rfl) ?_; rfl; rfl) | (refine WL.val ?_ ?_ (Runs.pickT rfl rfl) ?_; rfl; rfl) | (refine WL.val ?_ ?_ (Runs.pickF rfl rfl) ?_; rfl; rfl) | (refine WL.val ?_ ?_ (Runs.len rfl sl22) ?_; rfl; rfl) | (refine WL.val ?_ ?_ (Runs.len rfl sl23) ?_; rfl; rfl) | (refine WL.val ?_ ?_ (Runs.len rfl sl27) ?_; rfl; rfl) | (refine WL.val ?_ ?_ (Runs.len rfl sl28) ?_; rfl; rfl) | (refine WL.val ?_ ?_ (Runs.len rfl sl39) ?_; rfl; rfl) | (refine WL.val ?_ ?_ (Runs.len rfl sl64) ?_; rfl; rfl) | (refine WL.val ?_ ?_ (Runs.len rfl sl68) ?_; rfl; rfl) | (refine WL.val ?_ ?_ (Runs.len rfl sl86) ?_; rfl; rfl) | (refine WL.val ?_ ?_ (Runs.len rfl sl113) ?_; rfl; rfl) | (refine WL.pass ?_ ?_ ?_; rfl; rfl))
      refine WL.nil ?_
      repeat (first | refine AtExit.thenRet ?_ | refine AtExit.thenExit ?_ | refine AtExit.blockRet ?_ | refine AtExit.blockEnd ?_ | refine AtExit.blockExit ?_ | (refine AtExit.blockPast ?_ ?_; rfl))
      refine AtExit.go ?_
      refine WC.ret ?_
      repeat (first | refine AtExit.thenRet ?_ | refine AtExit.thenExit ?_ | refine AtExit.blockRet ?_ | refine AtExit.blockEnd ?_ | refine AtExit.blockExit ?_ | (refine AtExit.blockPast ?_ ?_; rfl))
      exact post1 rfl rfl ⟨rfl, rfl⟩
    · rw [if_neg h2]
      refine WL.val rfl rfl (Runs.gtr rfl rfl (dfalse h2)) ?_
      refine WL.nil ?_
      repeat (first | refine AtExit.thenRet ?_ | refine AtExit.thenExit ?_ | refine AtExit.blockRet ?_ | refine AtExit.blockEnd ?_ | refine AtExit.blockExit ?_ | (refine AtExit.blockPast ?_ ?_; rfl))
      refine AtExit.go ?_
      refine WC.condF rfl ?_
      refine WC.skip ?_
      repeat (first | refine AtExit.thenRet ?_ | refine AtExit.thenExit ?_ | refine AtExit.blockRet ?_ | refine AtExit.blockEnd ?_ | refine AtExit.blockExit ?_ | (refine AtExit.blockPast ?_ ?_; rfl))
      refine AtExit.go ?_
      refine WC.seq (WC.region ?_)
      repeat (first | (refine WL.val ?_ ?_ (Runs.move rfl) ?_; rfl; rfl) | (refine WL.val ?_ ?_ (Runs.assign rfl) ?_; rfl; rfl) | (refine WL.val ?_ ?_ (Runs.extract rfl rfl) ?_; rfl; rfl) | (refine WL.val ?_ ?_ (Runs.nilCheck rfl) ?_; rfl; rfl) | (refine WL.val ?_ ?_ (Runs.pickT rfl rfl) ?_; rfl; rfl) | (refine WL.val ?_ ?_ (Runs.pickF rfl rfl) ?_; rfl; rfl) | (refine WL.val ?_ ?_ (Runs.len rfl sl22) ?_; rfl; rfl) | (refine WL.val ?_ ?_ (Runs.len rfl sl23) ?_; rfl; rfl) | (refine WL.val ?_ ?_ (Runs.len rfl sl27) ?_; rfl; rfl) | (refine WL.val ?_ ?_ (Runs.len rfl sl28) ?_; rfl; rfl) | (refine WL.val ?_ ?_ (Runs.len rfl sl39) ?_; rfl; rfl) | (refine WL.val ?_ ?_ (Runs.len rfl sl64) ?_; rfl; rfl) | (refine WL.val ?_ ?_ (Runs.len rfl sl68) ?_; rfl; rfl) | (refine WL.val ?_ ?_ (Runs.len rfl sl86) ?_; rfl; rfl) | (refine WL.val ?_ ?_ (Runs.len rfl sl113) ?_; rfl; rfl) | (refine WL.pass ?_ ?_ ?_; rfl; rfl))
      refine WL.nil ?_
      repeat (first | refine AtExit.thenRet ?_ | refine AtExit.thenExit ?_ | refine AtExit.blockRet ?_ | refine AtExit.blockEnd ?_ | refine AtExit.blockExit ?_ | (refine AtExit.blockPast ?_ ?_; rfl))
      refine AtExit.go ?_
      refine WC.ret ?_
      repeat (first | refine AtExit.thenRet ?_ | refine AtExit.thenExit ?_ | refine AtExit.blockRet ?_ | refine AtExit.blockEnd ?_ | refine AtExit.blockExit ?_ | (refine AtExit.blockPast ?_ ?_; rfl))
      exact post1 rfl rfl ⟨rfl, rfl⟩

theorem cmpU (a b : Int) (w : World) : Calls Yba.prog 24 #[.int .u64 a, .int .u64 b] w fun e w' => e = .returned (.int .i64 (cmpI a b)) ∧ w' = w := by
  refine calls_of Yba.func24 rfl Yba.ntmps24 rfl ?_
  refine WC.seq (WC.region ?_)
  repeat (first | (refine WL.val ?_ ?_ (Runs.move rfl) ?_; rfl; rfl) | (refine WL.val ?_ ?_ (Runs.assign rfl) ?_; rfl; rfl) | (refine WL.val ?_ ?_ (Runs.extract rfl rfl) ?_; rfl; rfl) | (refine WL.val ?_ ?_ (Runs.nilCheck rfl) ?_; rfl; rfl) | (refine WL.val ?_ ?_ (Runs.pickT rfl rfl) ?_; rfl; rfl) | (refine WL.val ?_ ?_ (Runs.pickF rfl rfl) ?_; rfl; rfl) | (refine WL.val ?_ ?_ (Runs.len rfl sl22) ?_; rfl; rfl) | (refine WL.val ?_ ?_ (Runs.len rfl sl23) ?_; rfl; rfl) | (refine WL.val ?_ ?_ (Runs.len rfl sl27) ?_; rfl; rfl) | (refine WL.val ?_ ?_ (Runs.len rfl sl28) ?_; rfl; rfl) | (refine WL.val ?_ ?_ (Runs.len rfl sl39) ?_; rfl; rfl) | (refine WL.val ?_ ?_ (Runs.len rfl sl64) ?_; rfl; rfl) | (refine WL.val ?_ ?_ (Runs.len rfl sl68) ?_; rfl; rfl) | (refine WL.val ?_ ?_ (Runs.len rfl sl86) ?_; rfl; rfl) | (refine WL.val ?_ ?_ (Runs.len rfl sl113) ?_; rfl; rfl) | (refine WL.pass ?_ ?_ ?_; rfl; rfl))
  refine WL.nil ?_
  repeat (first | refine AtExit.thenRet ?_ | refine AtExit.thenExit ?_ | refine AtExit.blockRet ?_ | refine AtExit.blockEnd ?_ | refine AtExit.blockExit ?_ | (refine AtExit.blockPast ?_ ?_; rfl))
  refine AtExit.go ?_
  refine WC.seq (WC.region ?_)
  repeat (first | (refine WL.val ?_ ?_ (Runs.move rfl) ?_; rfl; rfl) | (refine WL.val ?_ ?_ (Runs.assign rfl) ?_; rfl; rfl) | (refine WL.val ?_ ?_ (Runs.extract rfl rfl) ?_; rfl; rfl) | (refine WL.val ?_ ?_ (Runs.nilCheck rfl) ?_; rfl; rfl) | (refine WL.val ?_ ?_ (Runs.pickT rfl rfl) ?_; rfl; rfl) | (refine WL.val ?_ ?_ (Runs.pickF rfl rfl) ?_; rfl; rfl) | (refine WL.val ?_ ?_ (Runs.len rfl sl22) ?_; rfl; rfl) | (refine WL.val ?_ ?_ (Runs.len rfl sl23) ?_; rfl; rfl) | (refine WL.val ?_ ?_ (Runs.len rfl sl27) ?_; rfl; rfl) | (refine WL.val ?_ ?_ (Runs.len rfl sl28) ?_; rfl; rfl) | (refine WL.val ?_ ?_ (Runs.len rfl sl39) ?_; rfl; rfl) | (refine WL.val ?_ ?_ (Runs.len rfl sl64) ?_; rfl; rfl) | (refine WL.val ?_ ?_ (Runs.len rfl sl68) ?_; rfl; rfl) | (refine WL.val ?_ ?_ (Runs.len rfl sl86) ?_; rfl; rfl) | (refine WL.val ?_ ?_ (Runs.len rfl sl113) ?_; rfl; rfl) | (refine WL.pass ?_ ?_ ?_; rfl; rfl))
  refine WL.call rfl rfl (RunsC.call rfl en37) (nanU a w) ?_
  rintro e w1 ⟨rfl, rfl⟩
  refine ⟨_, rfl, ?_⟩
  repeat (first | (refine WL.val ?_ ?_ (Runs.move rfl) ?_; rfl; rfl) | (refine WL.val ?_ ?_ (Runs.assign rfl) ?_; rfl; rfl) | (refine WL.val ?_ ?_ (Runs.extract rfl rfl) ?_; rfl; rfl) | (refine WL.val ?_ ?_ (Runs.nilCheck rfl) ?_; rfl; rfl) | (refine WL.val ?_ ?_ (Runs.pickT rfl rfl) ?_; rfl; rfl) | (refine WL.val ?_ ?_ (Runs.pickF rfl rfl) ?_; rfl; rfl) | (refine WL.val ?_ ?_ (Runs.len rfl sl22) ?_; rfl; rfl) | (refine WL.val ?_ ?_ (Runs.len rfl sl23) ?_; rfl; rfl) | (refine WL.val ?_ ?_ (Runs.len rfl sl27) ?_; rfl; rfl) | (refine WL.val ?_ ?_ (Runs.len rfl sl28) ?_; rfl; rfl) | (refine WL.val ?_ ?_ (Runs.len rfl sl39) ?_; rfl; rfl) | (refine WL.val ?_ ?_ (Runs.len rfl sl64) ?_; rfl; rfl) | (refine WL.val ?_ ?_ (Runs.len rfl sl68) ?_; rfl; rfl) | (refine WL.val ?_ ?_ (Runs.len rfl sl86) ?_; rfl; rfl) | (refine WL.val ?_ ?_ (Runs.len rfl sl113) ?_; rfl; rfl) | (refine WL.pass ?_ ?_ ?_; rfl; rfl))
  refine WL.nil ?_
  repeat (first | refine AtExit.thenRet ?_ | refine AtExit.thenExit ?_ | refine AtExit.blockRet ?_ | refine AtExit.blockEnd ?_ | refine AtExit.blockExit ?_ | (refine AtExit.blockPast ?_ ?_; rfl))
  refine AtExit.go ?_
  refine WC.seq (WC.region ?_)
  repeat (first | (refine WL.val ?_ ?_ (Runs.move rfl) ?_; rfl; rfl) | (refine WL.val ?_ ?_ (Runs.assign rfl) ?_; rfl; rfl) | (refine WL.val ?_ ?_ (Runs.extract rfl rfl) ?_; rfl; rfl) | (refine WL.val ?_ ?_ (Runs.nilCheck rfl) ?_; rfl; rfl) | (refine WL.val ?_ ?_ (Runs.pickT rfl rfl) ?_; rfl; rfl) | (refine WL.val ?_ ?_ (Runs.pickF rfl rfl) ?_; rfl; rfl) | (refine WL.val ?_ ?_ (Runs.len rfl sl22) ?_; rfl; rfl) | (refine WL.val ?_ ?_ (Runs.len rfl sl23) ?_; rfl; rfl) | (refine WL.val ?_ ?_ (Runs.len rfl sl27) ?_; rfl; rfl) | (refine WL.val ?_ ?_ (Runs.len rfl sl28) ?_; rfl; rfl) | (refine WL.val ?_ ?_ (Runs.len rfl sl39) ?_; rfl; rfl) | (refine WL.val ?_ ?_ (Runs.len rfl sl64) ?_; rfl; rfl) | (refine WL.val ?_ ?_ (Runs.len rfl sl68) ?_; rfl; rfl) | (refine WL.val ?_ ?_ (Runs.len rfl sl86) ?_; rfl; rfl) | (refine WL.val ?_ ?_ (Runs.len rfl sl113) ?_; rfl; rfl) | (refine WL.pass ?_ ?_ ?_; rfl; rfl))
  refine WL.call rfl rfl (RunsC.call rfl en37) (nanU b w1) ?_
  rintro e w2 ⟨rfl, rfl⟩
  refine ⟨_, rfl, ?_⟩
  repeat (first | (refine WL.val ?_ ?_ (Runs.move rfl) ?_; rfl; rfl) | (refine WL.val ?_ ?_ (Runs.assign rfl) ?_; rfl; rfl) | (refine WL.val ?_ ?_ (Runs.extract rfl rfl) ?_; rfl; rfl) | (refine WL.val ?_ ?_ (Runs.nilCheck rfl) ?_; rfl; rfl) | (refine WL.val ?_ ?_ (Runs.pickT rfl rfl) ?_; rfl; rfl) | (refine WL.val ?_ ?_ (Runs.pickF rfl rfl) ?_; rfl; rfl) | (refine WL.val ?_ ?_ (Runs.len rfl sl22) ?_; rfl; rfl) | (refine WL.val ?_ ?_ (Runs.len rfl sl23) ?_; rfl; rfl) | (refine WL.val ?_ ?_ (Runs.len rfl sl27) ?_; rfl; rfl) | (refine WL.val ?_ ?_ (Runs.len rfl sl28) ?_; rfl; rfl) | (refine WL.val ?_ ?_ (Runs.len rfl sl39) ?_; rfl; rfl) | (refine WL.val ?_ ?_ (Runs.len rfl sl64) ?_; rfl; rfl) | (refine WL.val ?_ ?_ (Runs.len rfl sl68) ?_; rfl; rfl) | (refine WL.val ?_ ?_ (Runs.len rfl sl86) ?_; rfl; rfl) | (refine WL.val ?_ ?_ (Runs.len rfl sl113) ?_; rfl; rfl) | (refine WL.pass ?_ ?_ ?_; rfl; rfl))
  refine WL.nil ?_
  repeat (first | refine AtExit.thenRet ?_ | refine AtExit.thenExit ?_ | refine AtExit.blockRet ?_ | refine AtExit.blockEnd ?_ | refine AtExit.blockExit ?_ | (refine AtExit.blockPast ?_ ?_; rfl))
  refine AtExit.go ?_
  refine WC.seq ?_
  refine WC.seq (WC.region ?_)
  repeat (first | (refine WL.val ?_ ?_ (Runs.move rfl) ?_; rfl; rfl) | (refine WL.val ?_ ?_ (Runs.assign rfl) ?_; rfl; rfl) | (refine WL.val ?_ ?_ (Runs.extract rfl rfl) ?_; rfl; rfl) | (refine WL.val ?_ ?_ (Runs.nilCheck rfl) ?_; rfl; rfl) | (refine WL.val ?_ ?_ (Runs.pickT rfl rfl) ?_; rfl; rfl) | (refine WL.val ?_ ?_ (Runs.pickF rfl rfl) ?_; rfl; rfl) | (refine WL.val ?_ ?_ (Runs.len rfl sl22) ?_; rfl; rfl) | (refine WL.val ?_ ?_ (Runs.len rfl sl23) ?_; rfl; rfl) | (refine WL.val ?_ ?_ (Runs.len rfl sl27) ?_; rfl; rfl) | (refine WL.val ?_ ?_ (Runs.len rfl sl28) ?_; rfl; rfl) | (refine WL.val ?_ ?_ (Runs.len rfl sl39) ?_; rfl; rfl) | (refine WL.val ?_ ?_ (Runs.len rfl sl64) ?_; rfl; rfl) | (refine WL.val ?_ ?_ (Runs.len rfl sl68) ?_; rfl; rfl) | (refine WL.val ?_ ?_ (Runs.len rfl sl86) ?_; rfl; rfl) | (refine WL.val ?_ ?_ (Runs.len rfl sl113) ?_; rfl; rfl) | (refine WL.pass ?_ ?_ ?_; rfl; rfl))
  refine WL.nil ?_
  repeat (first | refine AtExit.thenRet ?_ | refine AtExit.thenExit ?_ | refine AtExit.blockRet ?_ | refine AtExit.blockEnd ?_ | refine AtExit.blockExit ?_ | (refine AtExit.blockPast ?_ ?_; rfl))
  refine AtExit.go ?_
  refine WC.condF rfl ?_
  refine WC.skip ?_
  repeat (first | refine AtExit.thenRet ?_ | refine AtExit.thenExit ?_ | refine AtExit.blockRet ?_ | refine AtExit.blockEnd ?_ | refine AtExit.blockExit ?_ | (refine AtExit.blockPast ?_ ?_; rfl))
  refine AtExit.go ?_
  refine WC.seq ?_
  refine WC.seq (WC.region ?_)
  repeat (first | (refine WL.val ?_ ?_ (Runs.move rfl) ?_; rfl; rfl) | (refine WL.val ?_ ?_ (Runs.assign rfl) ?_; rfl; rfl) | (refine WL.val ?_ ?_ (Runs.extract rfl rfl) ?_; rfl; rfl) | (refine WL.val ?_ ?_ (Runs.nilCheck rfl) ?_; rfl; rfl) | (refine WL.val ?_ ?_ (Runs.pickT rfl rfl) ?_; rfl; rfl) | (refine WL.val ?_ ?_ (Runs.pickF rfl rfl) ?_; rfl; rfl) | (refine WL.val ?_ ?_ (Runs.len rfl sl22) ?_; rfl; rfl) | (refine WL.val ?_ ?_ (Runs.len rfl sl23) ?_; rfl; rfl) | (refine WL.val ?_ ?_ (Runs.len rfl sl27) ?_; rfl; rfl) | (refine WL.val ?_ ?_ (Runs.len rfl sl28) ?_; rfl; rfl) | (refine WL.val ?_ ?_ (Runs.len rfl sl39) ?_; rfl; rfl) | (refine WL.val ?_ ?_ (Runs.len rfl sl64) ?_; rfl; rfl) | (refine WL.val ?_ ?_ (Runs.len rfl sl68) ?_; rfl; rfl) | (refine WL.val ?_ ?_ (Runs.len rfl sl86) ?_; rfl; rfl) | (refine WL.val ?_ ?_ (Runs.len rfl sl113) ?_; rfl; rfl) | (refine WL.pass ?_ ?_ ?_; rfl; rfl))
  refine WL.nil ?_
  repeat (first | refine AtExit.thenRet ?_ | refine AtExit.thenExit ?_ | refine AtExit.blockRet ?_ | refine AtExit.blockEnd ?_ | refine AtExit.blockExit ?_ | (refine AtExit.blockPast ?_ ?_; rfl))
  refine AtExit.go ?_
  refine WC.condF rfl ?_
  refine WC.skip ?_
  repeat (first | refine AtExit.thenRet ?_ | refine AtExit.thenExit ?_ | refine AtExit.blockRet ?_ | refine AtExit.blockEnd ?_ | refine AtExit.blockExit ?_ | (refine AtExit.blockPast ?_ ?_; rfl))
  refine AtExit.go ?_
  refine WC.seq ?_
  refine WC.seq (WC.region ?_)
  repeat (first | (refine WL.val ?_ ?_ (Runs.move rfl) ?_; rfl; rfl) | (refine WL.val ?_ ?_ (Runs.assign rfl) ?_; rfl; rfl) | (refine WL.val ?_ ?_ (Runs.extract rfl rfl) ?_; rfl; rfl) | (refine WL.val ?_ ?_ (Runs.nilCheck rfl) ?_; rfl; rfl) | (refine WL.val ?_ ?_ (Runs.pickT rfl rfl) ?_; rfl; rfl) | (refine WL.val ?_ ?_ (Runs.pickF rfl rfl) ?_; rfl; rfl) | (refine WL.val ?_ ?_ (Runs.len rfl sl22) ?_; rfl; rfl) | (refine WL.val ?_ ?_ (Runs.len rfl sl23) ?_; rfl; rfl) | (refine WL.val ?_ ?_ (Runs.len rfl sl27) ?_; rfl; rfl) | (refine WL.val ?_ ?_ (Runs.len rfl sl28) ?_; rfl; rfl) | (refine WL.val ?_ ?_ (Runs.len rfl sl39) ?_; rfl; rfl) | (refine WL.val ?_ ?_ (Runs.len rfl sl64) ?_; rfl; rfl) | (refine WL.val ?_ ?_ (Runs.len rfl sl68) ?_; rfl; rfl) | (refine WL.val ?_ ?_ (Runs.len rfl sl86) ?_; rfl; rfl) | (refine WL.val ?_ ?_ (Runs.len rfl sl113) ?_; rfl; rfl) | (refine WL.pass ?_ ?_ ?_; rfl; rfl))
  unfold cmpI
  by_cases h1 : a < b
  · rw [if_pos h1]
    refine WL.val rfl rfl (Runs.lss rfl rfl (dtrue h1)) ?_
    refine WL.nil ?_
    repeat (first | refine AtExit.thenRet ?_ | refine AtExit.thenExit ?_ | refine AtExit.blockRet ?_ | refine AtExit.blockEnd ?_ | refine AtExit.blockExit ?_ | (refine AtExit.blockPast ?_ ?_; rfl))
    refine AtExit.go ?_
    refine WC.condT rfl ?_
    refine WC.seq (WC.region ?_)
    repeat (first | (refine WL.val ?_ ?_ (Runs.move rfl) ?_; rfl; rfl) | (refine WL.val ?_ ?_ (Runs.assign rfl) ?_; rfl; rfl) | (refine WL.val ?_ ?_ (Runs.extract rfl rfl) ?_; rfl; rfl) | (refine WL.val ?_ ?_ (Runs.nilCheck rfl) ?_; rfl; rfl) | (refine WL.val ?_ ?_ (Runs.pickT rfl rfl) ?_; rfl; rfl) | (refine WL.val ?_ ?_ (Runs.pickF rfl rfl) ?_; rfl; rfl) | (refine WL.val ?_ ?_ (Runs.len rfl sl22) ?_; rfl; rfl) | (refine WL.val ?_ ?_ (Runs.len rfl sl23) ?_; rfl; rfl) | (refine WL.val ?_ ?_ (Runs.len rfl sl27) ?_; rfl; rfl) | (refine WL.val ?_ ?_ (Runs.len rfl sl28) ?_; rfl; rfl) | (refine WL.val ?_ ?_ (Runs.len rfl sl39) ?_; rfl; rfl) | (refine WL.val ?_ ?_ (Runs.len rfl sl64) ?_; rfl; rfl) | (refine WL.val ?_ ?_ (Runs.len rfl sl68) ?_; rfl; rfl) | (refine WL.val ?_ ?_ (Runs.len rfl sl86) ?_; rfl; rfl) | (refine WL.val ?_ ?_ (Runs.len rfl sl113) ?_; rfl; rfl) | (refine WL.pass ?_ ?_ ?_; rfl; rfl))
    refine WL.nil ?_
    repeat (first | refine AtExit.thenRet ?_ | refine AtExit.thenExit ?_ | refine AtExit.blockRet ?_ | refine AtExit.blockEnd ?_ | refine AtExit.blockExit ?_ | (refine AtExit.blockPast ?_ ?_; rfl))
    refine AtExit.go ?_
    refine WC.ret ?_
    repeat (first | refine AtExit.thenRet ?_ | refine AtExit.thenExit ?_ | refine AtExit.blockRet ?_ | refine AtExit.blockEnd ?_ | refine AtExit.blockExit ?_ | (refine AtExit.blockPast ?_ ?_; rfl))
    exact post1 rfl rfl ⟨rfl, rfl⟩
  · rw [if_neg h1]
    refine WL.val rfl rfl (Runs.lss rfl rfl (dfalse h1)) ?_
    refine WL.nil ?_
    repeat (first | refine AtExit.thenRet ?_ | refine AtExit.thenExit ?_ | refine AtExit.blockRet ?_ | refine AtExit.blockEnd ?_ | refine AtExit.blockExit ?_ | (refine AtExit.blockPast ?_ ?_; rfl))
    refine AtExit.go ?_
    refine WC.condF rfl ?_
    refine WC.skip ?_
    repeat (first | refine AtExit.thenRet ?_ | refine AtExit.thenExit ?_ | refine AtExit.blockRet ?_ | refine AtExit.blockEnd ?_ | refine AtExit.blockExit ?_ | (refine AtExit.blockPast ?_ ?_; rfl))
    refine AtExit.go ?_
    refine WC.seq ?_
    refine WC.seq (WC.region ?_)
    repeat (first | (refine WL.val ?_ ?_ (Runs.move rfl) ?_; rfl; rfl) | (refine WL.val ?_ ?_ (Runs.assign rfl) ?_; rfl; rfl) | (refine WL.val ?_ ?_ (Runs.extract rfl rfl) ?_; rfl; rfl) | (refine WL.val ?_ ?_ (Runs.nilCheck rfl) ?_; rfl; rfl) | (refine WL.val ?_ ?_ (Runs.pickT rfl rfl) ?_; rfl; rfl) | (refine WL.val ?_ ?_ (Runs.pickF rfl rfl) ?_; rfl; rfl) | (refine WL.val ?_ ?_ (Runs.len rfl sl22) ?_; rfl; rfl) | (refine WL.val ?_ ?_ (Runs.len rfl sl23) ?_; rfl; rfl) | (refine WL.val ?_ ?_ (Runs.len rfl sl27) ?_; rfl; rfl) | (refine WL.val ?_ ?_ (Runs.len rfl sl28) ?_; rfl; rfl) | (refine WL.val ?_ ?_ (Runs.len rfl sl39) ?_; rfl; rfl) | (refine WL.val ?_ ?_ (Runs.len rfl sl64) ?_; rfl; rfl) | (refine WL.val ?_ ?_ (Runs.len rfl sl68) ?_; rfl; rfl) | (refine WL.val ?_ ?_ (Runs.len rfl sl86) ?_; rfl; rfl) | (refine WL.val ?_ ?_ (Runs.len rfl sl113) ?_; rfl; rfl) | (refine WL.pass ?_ ?_ ?_; rfl; rfl))
    by_cases h2 : b < a
    · rw [if_pos h2]
      refine WL.val rfl rfl (Runs.gtr rfl rfl (dtrue h2)) ?_
      refine WL.nil ?_
      repeat (first | refine AtExit.thenRet ?_ | refine AtExit.thenExit ?_ | refine AtExit.blockRet ?_ | refine AtExit.blockEnd ?_ | refine AtExit.blockExit ?_ | (refine AtExit.blockPast ?_ ?_; rfl))
      refine AtExit.go ?_
      refine WC.condT rfl ?_
      refine WC.seq (WC.region ?_)
      repeat (first | (refine WL.val ?_ ?_ (Runs.move rfl) ?_; rfl; rfl) | (refine WL.val ?_ ?_ (Runs.assign rfl) ?_; rfl; rfl) | (refine WL.val ?_ ?_ (Runs.extract rfl rfl) ?_; rfl; rfl) | (refine WL.val ?_ ?_ (Runs.nilCheck rfl) ?_; rfl; rfl) | (refine WL.val ?_ ?_ (Runs.pickT rfl rfl) ?_; rfl; rfl) | (refine WL.val ?_ ?_ (Runs.pickF rfl rfl) ?_; rfl; rfl) | (refine WL.val ?_ ?_ (Runs.len rfl sl22) ?_; rfl; rfl) | (refine WL.val ?_ ?_ (Runs.len rfl sl23) ?_; rfl; rfl) | (refine WL.val ?_ ?_ (Runs.len rfl sl27) ?_; rfl; rfl) | (refine WL.val ?_ ?_ (Runs.len rfl sl28) ?_; rfl; rfl) | (refine WL.val ?_ ?_ (Runs.len rfl sl39) ?_; rfl; rfl) | (refine WL.val ?_ ?_ (Runs.len rfl sl64) ?_; rfl; rfl) | (refine WL.val ?_ ?_ (Runs.len rfl sl68) ?_; rfl; rfl) | (refine WL.val ?_ ?_ (Runs.len rfl sl86) ?_; rfl; rfl) | (refine WL.val ?_ ?_ (Runs.len rfl sl113) ?_; rfl; rfl) | (refine WL.pass ?_ ?_ ?_; rfl; rfl))
      refine WL.nil ?_
      repeat (first | refine AtExit.thenRet ?_ | refine AtExit.thenExit ?_ | refine AtExit.blockRet ?_ | refine AtExit.blockEnd ?_ | refine AtExit.blockExit ?_ | (refine AtExit.blockPast ?_ ?_; rfl))
      refine AtExit.go ?_
      refine WC.ret ?_
      repeat (first | refine AtExit.thenRet ?_ | refine AtExit.thenExit ?_ | refine AtExit.blockRet ?_ | refine AtExit.blockEnd ?_ | refine AtExit.blockExit ?_ | (refine AtExit.blockPast ?_ ?_; rfl))
      exact post1 rfl rfl ⟨rfl, rfl⟩
    · rw [if_neg h2]
      refine WL.val rfl rfl (Runs.gtr rfl rfl (dfalse h2)) ?_
      refine WL.nil ?_
      repeat (first | refine AtExit.thenRet ?_ | refine AtExit.thenExit ?_ | refine AtExit.blockRet ?_ | refine AtExit.blockEnd ?_ | refine AtExit.blockExit ?_ | (refine AtExit.blockPast ?_ ?_; rfl))
      refine AtExit.go ?_
      refine WC.condF rfl ?_
      refine WC.skip ?_
      repeat (first | refine AtExit.thenRet ?_ | refine AtExit.thenExit ?_ | refine AtExit.blockRet ?_ | refine AtExit.blockEnd ?_ | refine AtExit.blockExit ?_ | (refine AtExit.blockPast ?_ ?_; rfl))
      refine AtExit.go ?_
      refine WC.seq (WC.region ?_)
      repeat (first | (refine WL.val ?_ ?_ (Runs.move rfl) ?_; rfl; rfl) | (refine WL.val ?_ ?_ (Runs.assign rfl) ?_; rfl; rfl) | (refine WL.val ?_ ?_ (Runs.extract rfl rfl) ?_; rfl; rfl) | (refine WL.val ?_ ?_ (Runs.nilCheck rfl) ?_; rfl; rfl) | (refine WL.val ?_ ?_ (Runs.pickT rfl rfl) ?_; rfl; rfl) | (refine WL.val ?_ ?_ (Runs.pickF rfl rfl) ?_; rfl; rfl) | (refine WL.val ?_ ?_ (Runs.len rfl sl22) ?_; rfl; rfl) | (refine WL.val ?_ ?_ (Runs.len rfl sl23) ?_; rfl; rfl) | (refine WL.val ?_ ?_ (Runs.len rfl sl27) ?_; rfl; rfl) | (refine WL.val ?_ ?_ (Runs.len rfl sl28) ?_; rfl; rfl) | (refine WL.val ?_ ?_ (Runs.len rfl sl39) ?_; rfl; rfl) | (refine WL.val ?_ ?_ (Runs.len rfl sl64) ?_; rfl; rfl) | (refine WL.val ?_ ?_ (Runs.len rfl sl68) ?_; rfl; rfl) | (refine WL.val ?_ ?_ (Runs.len rfl sl86) ?_; rfl; rfl) | (refine WL.val ?_ ?_ (Runs.len rfl sl113) ?_; rfl; rfl) | (refine WL.pass ?_ ?_ ?_; rfl; rfl))
      refine WL.nil ?_
      repeat (first | refine AtExit.thenRet ?_ | refine AtExit.thenExit ?_ | refine AtExit.blockRet ?_ | refine AtExit.blockEnd ?_ | refine AtExit.blockExit ?_ | (refine AtExit.blockPast ?_ ?_; rfl))
      refine AtExit.go ?_
      refine WC.ret ?_
      repeat (first | refine AtExit.thenRet ?_ | refine AtExit.thenExit ?_ | refine AtExit.blockRet ?_ | refine AtExit.blockEnd ?_ | refine AtExit.blockExit ?_ | (refine AtExit.blockPast ?_ ?_; rfl))
      exact post1 rfl rfl ⟨rfl, rfl⟩

theorem or_any (x y : Int) (b : Nat) (w : World) (h : w.heap[b]? = some (.cells #[.int .i64 x, .int .i64 y] 3 (0, 0))) :
    Calls Yba.prog 22 #[.slice (some ⟨b, 0, none⟩) 2 2] w fun e w' => e = .returned (.int .i64 (if x ≠ 0 then x else y)) ∧ w' = w := by
  refine calls_of Yba.func22 rfl Yba.ntmps22 rfl ?_
  refine WC.seq (WC.region ?_)
  repeat (first | (refine WL.val ?_ ?_ (Runs.move rfl) ?_; rfl; rfl) | (refine WL.val ?_ ?_ (Runs.assign rfl) ?_; rfl; rfl) | (refine WL.val ?_ ?_ (Runs.extract rfl rfl) ?_; rfl; rfl) | (refine WL.val ?_ ?_ (Runs.nilCheck rfl) ?_; rfl; rfl) | (refine WL.val ?_ ?_ (Runs.pickT rfl rfl) ?_; rfl; rfl) | (refine WL.val ?_ ?_ (Runs.pickF rfl rfl) ?_; rfl; rfl) | (refine WL.val ?_ ?_ (Runs.len rfl sl22) ?_; rfl; rfl) | (refine WL.val ?_ ?_ (Runs.len rfl sl23) ?_; rfl; rfl) | (refine WL.val ?_ ?_ (Runs.len rfl sl27) ?_; rfl; rfl) | (refine WL.val ?_ ?_ (Runs.len rfl sl28) ?_; rfl; rfl) | (refine WL.val ?_ ?_ (Runs.len rfl sl39) ?_; rfl; rfl) | (refine WL.val ?_ ?_ (Runs.len rfl sl64) ?_; rfl; rfl) | (refine WL.val ?_ ?_ (Runs.len rfl sl68) ?_; rfl; rfl) | (refine WL.val ?_ ?_ (Runs.len rfl sl86) ?_; rfl; rfl) | (refine WL.val ?_ ?_ (Runs.len rfl sl113) ?_; rfl; rfl) | (refine WL.pass ?_ ?_ ?_; rfl; rfl))
  refine WL.nil ?_
  repeat (first | refine AtExit.thenRet ?_ | refine AtExit.thenExit ?_ | refine AtExit.blockRet ?_ | refine AtExit.blockEnd ?_ | refine AtExit.blockExit ?_ | (refine AtExit.blockPast ?_ ?_; rfl))
  refine AtExit.go ?_
  refine WC.seq (WC.region ?_)
  repeat (first | (refine WL.val ?_ ?_ (Runs.move rfl) ?_; rfl; rfl) | (refine WL.val ?_ ?_ (Runs.assign rfl) ?_; rfl; rfl) | (refine WL.val ?_ ?_ (Runs.extract rfl rfl) ?_; rfl; rfl) | (refine WL.val ?_ ?_ (Runs.nilCheck rfl) ?_; rfl; rfl) | (refine WL.val ?_ ?_ (Runs.pickT rfl rfl) ?_; rfl; rfl) | (refine WL.val ?_ ?_ (Runs.pickF rfl rfl) ?_; rfl; rfl) | (refine WL.val ?_ ?_ (Runs.len rfl sl22) ?_; rfl; rfl) | (refine WL.val ?_ ?_ (Runs.len rfl sl23) ?_; rfl; rfl) | (refine WL.val ?_ ?_ (Runs.len rfl sl27) ?_; rfl; rfl) | (refine WL.val ?_ ?_ (Runs.len rfl sl28) ?_; rfl; rfl) | (refine WL.val ?_ ?_ (Runs.len rfl sl39) ?_; rfl; rfl) | (refine WL.val ?_ ?_ (Runs.len rfl sl64) ?_; rfl; rfl) | (refine WL.val ?_ ?_ (Runs.len rfl sl68) ?_; rfl; rfl) | (refine WL.val ?_ ?_ (Runs.len rfl sl86) ?_; rfl; rfl) | (refine WL.val ?_ ?_ (Runs.len rfl sl113) ?_; rfl; rfl) | (refine WL.pass ?_ ?_ ?_; rfl; rfl))
  refine WL.nil ?_
  repeat (first | refine AtExit.thenRet ?_ | refine AtExit.thenExit ?_ | refine AtExit.blockRet ?_ | refine AtExit.blockEnd ?_ | refine AtExit.blockExit ?_ | (refine AtExit.blockPast ?_ ?_; rfl))
  refine AtExit.go ?_
  have cell : ∀ k, k < 2 → w.cell? ⟨b, 0 + k, none⟩ = some (.int .i64 (if k = 0 then x else y)) := by
    intro k hk
    rw [cell_of h, Nat.zero_add]
    match k, hk with
    | 0, _ => rfl
    | 1, _ => rfl
  refine WC.cut (α := Unit) (fun _ => [(3, .int .i64 0)]) (fun _ w' => w' = w ∧ x = 0 ∧ y = 0) ?_ ?_
  · refine WC.seq (WC.region ?_)
    repeat (first | (refine WL.val ?_ ?_ (Runs.move rfl) ?_; rfl; rfl) | (refine WL.val ?_ ?_ (Runs.assign rfl) ?_; rfl; rfl) | (refine WL.val ?_ ?_ (Runs.extract rfl rfl) ?_; rfl; rfl) | (refine WL.val ?_ ?_ (Runs.nilCheck rfl) ?_; rfl; rfl) | (refine WL.val ?_ ?_ (Runs.pickT rfl rfl) ?_; rfl; rfl) | (refine WL.val ?_ ?_ (Runs.pickF rfl rfl) ?_; rfl; rfl) | (refine WL.val ?_ ?_ (Runs.len rfl sl22) ?_; rfl; rfl) | (refine WL.val ?_ ?_ (Runs.len rfl sl23) ?_; rfl; rfl) | (refine WL.val ?_ ?_ (Runs.len rfl sl27) ?_; rfl; rfl) | (refine WL.val ?_ ?_ (Runs.len rfl sl28) ?_; rfl; rfl) | (refine WL.val ?_ ?_ (Runs.len rfl sl39) ?_; rfl; rfl) | (refine WL.val ?_ ?_ (Runs.len rfl sl64) ?_; rfl; rfl) | (refine WL.val ?_ ?_ (Runs.len rfl sl68) ?_; rfl; rfl) | (refine WL.val ?_ ?_ (Runs.len rfl sl86) ?_; rfl; rfl) | (refine WL.val ?_ ?_ (Runs.len rfl sl113) ?_; rfl; rfl) | (refine WL.pass ?_ ?_ ?_; rfl; rfl))
    refine WL.nil ?_
    repeat (first | refine AtExit.thenRet ?_ | refine AtExit.thenExit ?_ | refine AtExit.blockRet ?_ | refine AtExit.blockEnd ?_ | refine AtExit.blockExit ?_ | (refine AtExit.blockPast ?_ ?_; rfl))
    refine AtExit.go ?_
    refine WC.block ?_
    refine WC.loop (α := Nat) (fun k => [(3, .int .i64 0), (6, .slice (some ⟨b, 0, none⟩) 2 2), (7, .int .i64 ((2 : Nat) : Int)), (8, .int .i64 (k : Int))])
      (fun k w' => w' = w ∧ k ≤ 2 ∧ (1 ≤ k → x = 0) ∧ (2 ≤ k → y = 0)) (fun k => 2 - k) 0 (by repeat (first | exact Sub.nil _ | refine Sub.cons rfl ?_)) ⟨rfl, by omega, by omega, by omega⟩ ?_
    rintro k w' ⟨rfl, hk, hx, hy⟩
    refine WC.seq (WC.region ?_)
    by_cases hk2 : k < 2
    · refine WL.val rfl rfl (Runs.lss rfl rfl (declt hk2)) ?_
      refine WL.nil ?_
      repeat (first | refine AtExit.thenRet ?_ | refine AtExit.thenExit ?_ | refine AtExit.blockRet ?_ | refine AtExit.blockEnd ?_ | refine AtExit.blockExit ?_ | (refine AtExit.blockPast ?_ ?_; rfl))
      refine AtExit.go ?_
      refine WC.seq (WC.condT rfl ?_)
      refine WC.skip ?_
      repeat (first | refine AtExit.thenRet ?_ | refine AtExit.thenExit ?_ | refine AtExit.blockRet ?_ | refine AtExit.blockEnd ?_ | refine AtExit.blockExit ?_ | (refine AtExit.blockPast ?_ ?_; rfl))
      refine AtExit.go ?_
      refine WC.seq (WC.block ?_)
      refine WC.seq (WC.region ?_)
      refine WL.val rfl rfl (Runs.idx1 rfl rfl Yba.underlying113 sz3 rfl hk2) ?_
      refine WL.val rfl rfl (Runs.load rfl na3 (cell k hk2)) ?_
      repeat (first | (refine WL.val ?_ ?_ (Runs.move rfl) ?_; rfl; rfl) | (refine WL.val ?_ ?_ (Runs.assign rfl) ?_; rfl; rfl) | (refine WL.val ?_ ?_ (Runs.extract rfl rfl) ?_; rfl; rfl) | (refine WL.val ?_ ?_ (Runs.nilCheck rfl) ?_; rfl; rfl) | (refine WL.val ?_ ?_ (Runs.pickT rfl rfl) ?_; rfl; rfl) | (refine WL.val ?_ ?_ (Runs.pickF rfl rfl) ?_; rfl; rfl) | (refine WL.val ?_ ?_ (Runs.len rfl sl22) ?_; rfl; rfl) | (refine WL.val ?_ ?_ (Runs.len rfl sl23) ?_; rfl; rfl) | (refine WL.val ?_ ?_ (Runs.len rfl sl27) ?_; rfl; rfl) | (refine WL.val ?_ ?_ (Runs.len rfl sl28) ?_; rfl; rfl) | (refine WL.val ?_ ?_ (Runs.len rfl sl39) ?_; rfl; rfl) | (refine WL.val ?_ ?_ (Runs.len rfl sl64) ?_; rfl; rfl) | (refine WL.val ?_ ?_ (Runs.len rfl sl68) ?_; rfl; rfl) | (refine WL.val ?_ ?_ (Runs.len rfl sl86) ?_; rfl; rfl) | (refine WL.val ?_ ?_ (Runs.len rfl sl113) ?_; rfl; rfl) | (refine WL.pass ?_ ?_ ?_; rfl; rfl))
      refine WL.nil ?_
      repeat (first | refine AtExit.thenRet ?_ | refine AtExit.thenExit ?_ | refine AtExit.blockRet ?_ | refine AtExit.blockEnd ?_ | refine AtExit.blockExit ?_ | (refine AtExit.blockPast ?_ ?_; rfl))
      refine AtExit.go ?_
      refine WC.seq (WC.region ?_)
      repeat (first | (refine WL.val ?_ ?_ (Runs.move rfl) ?_; rfl; rfl) | (refine WL.val ?_ ?_ (Runs.assign rfl) ?_; rfl; rfl) | (refine WL.val ?_ ?_ (Runs.extract rfl rfl) ?_; rfl; rfl) | (refine WL.val ?_ ?_ (Runs.nilCheck rfl) ?_; rfl; rfl) | (refine WL.val ?_ ?_ (Runs.pickT rfl rfl) ?_; rfl; rfl) | (refine WL.val ?_ ?_ (Runs.pickF rfl rfl) ?_; rfl; rfl) | (refine WL.val ?_ ?_ (Runs.len rfl sl22) ?_; rfl; rfl) | (refine WL.val ?_ ?_ (Runs.len rfl sl23) ?_; rfl; rfl) | (refine WL.val ?_ ?_ (Runs.len rfl sl27) ?_; rfl; rfl) | (refine WL.val ?_ ?_ (Runs.len rfl sl28) ?_; rfl; rfl) | (refine WL.val ?_ ?_ (Runs.len rfl sl39) ?_; rfl; rfl) | (refine WL.val ?_ ?_ (Runs.len rfl sl64) ?_; rfl; rfl) | (refine WL.val ?_ ?_ (Runs.len rfl sl68) ?_; rfl; rfl) | (refine WL.val ?_ ?_ (Runs.len rfl sl86) ?_; rfl; rfl) | (refine WL.val ?_ ?_ (Runs.len rfl sl113) ?_; rfl; rfl) | (refine WL.pass ?_ ?_ ?_; rfl; rfl))
      by_cases hz : (if k = 0 then x else y) = 0
      · refine WL.val rfl rfl (Runs.neq rfl rfl (r := false) (by rw [hz]; rfl)) ?_
        refine WL.nil ?_
        repeat (first | refine AtExit.thenRet ?_ | refine AtExit.thenExit ?_ | refine AtExit.blockRet ?_ | refine AtExit.blockEnd ?_ | refine AtExit.blockExit ?_ | (refine AtExit.blockPast ?_ ?_; rfl))
        refine AtExit.go ?_
        refine WC.condF rfl ?_
        refine WC.skip ?_
        repeat (first | refine AtExit.thenRet ?_ | refine AtExit.thenExit ?_ | refine AtExit.blockRet ?_ | refine AtExit.blockEnd ?_ | refine AtExit.blockExit ?_ | (refine AtExit.blockPast ?_ ?_; rfl))
        refine AtExit.go ?_
        refine WC.region ?_
        refine WL.val rfl rfl (Runs.add rfl rfl (r := ((k + 1 : Nat) : Int)) (wI (by omega) (by omega) (by omega))) ?_
        repeat (first | (refine WL.val ?_ ?_ (Runs.move rfl) ?_; rfl; rfl) | (refine WL.val ?_ ?_ (Runs.assign rfl) ?_; rfl; rfl) | (refine WL.val ?_ ?_ (Runs.extract rfl rfl) ?_; rfl; rfl) | (refine WL.val ?_ ?_ (Runs.nilCheck rfl) ?_; rfl; rfl) | (refine WL.val ?_ ?_ (Runs.pickT rfl rfl) ?_; rfl; rfl) | (refine WL.val ?_ ?_ (Runs.pickF rfl rfl) ?_; rfl; rfl) | (refine WL.val ?_ ?_ (Runs.len rfl sl22) ?_; rfl; rfl) | (refine WL.val ?_ ?_ (Runs.len rfl sl23) ?_; rfl; rfl) | (refine WL.val ?_ ?_ (Runs.len rfl sl27) ?_; rfl; rfl) | (refine WL.val ?_ ?_ (Runs.len rfl sl28) ?_; rfl; rfl) | (refine WL.val ?_ ?_ (Runs.len rfl sl39) ?_; rfl; rfl) | (refine WL.val ?_ ?_ (Runs.len rfl sl64) ?_; rfl; rfl) | (refine WL.val ?_ ?_ (Runs.len rfl sl68) ?_; rfl; rfl) | (refine WL.val ?_ ?_ (Runs.len rfl sl86) ?_; rfl; rfl) | (refine WL.val ?_ ?_ (Runs.len rfl sl113) ?_; rfl; rfl) | (refine WL.pass ?_ ?_ ?_; rfl; rfl))
        refine WL.nil ?_
        repeat (first | refine AtExit.thenRet ?_ | refine AtExit.thenExit ?_ | refine AtExit.blockRet ?_ | refine AtExit.blockEnd ?_ | refine AtExit.blockExit ?_ | (refine AtExit.blockPast ?_ ?_; rfl))
        refine AtExit.inv fun av hv => ⟨k + 1, hv.sub (by repeat (first | exact Sub.nil _ | refine Sub.cons rfl ?_)), ⟨rfl, by omega, fun _ => ?_, fun h2 => ?_⟩, by omega⟩
        · by_cases h0 : k = 0
          · rw [if_pos h0] at hz; exact hz
          · exact hx (by omega)
        · rw [if_neg (by omega)] at hz; exact hz
      · refine WL.val rfl rfl (Runs.neq rfl rfl (r := true) (by rw [dfalse hz]; rfl)) ?_
        refine WL.nil ?_
        repeat (first | refine AtExit.thenRet ?_ | refine AtExit.thenExit ?_ | refine AtExit.blockRet ?_ | refine AtExit.blockEnd ?_ | refine AtExit.blockExit ?_ | (refine AtExit.blockPast ?_ ?_; rfl))
        refine AtExit.go ?_
        refine WC.condT rfl ?_
        refine WC.seq (WC.region ?_)
        repeat (first | (refine WL.val ?_ ?_ (Runs.move rfl) ?_; rfl; rfl) | (refine WL.val ?_ ?_ (Runs.assign rfl) ?_; rfl; rfl) | (refine WL.val ?_ ?_ (Runs.extract rfl rfl) ?_; rfl; rfl) | (refine WL.val ?_ ?_ (Runs.nilCheck rfl) ?_; rfl; rfl) | (refine WL.val ?_ ?_ (Runs.pickT rfl rfl) ?_; rfl; rfl) | (refine WL.val ?_ ?_ (Runs.pickF rfl rfl) ?_; rfl; rfl) | (refine WL.val ?_ ?_ (Runs.len rfl sl22) ?_; rfl; rfl) | (refine WL.val ?_ ?_ (Runs.len rfl sl23) ?_; rfl; rfl) | (refine WL.val ?_ ?_ (Runs.len rfl sl27) ?_; rfl; rfl) | (refine WL.val ?_ ?_ (Runs.len rfl sl28) ?_; rfl; rfl) | (refine WL.val ?_ ?_ (Runs.len rfl sl39) ?_; rfl; rfl) | (refine WL.val ?_ ?_ (Runs.len rfl sl64) ?_; rfl; rfl) | (refine WL.val ?_ ?_ (Runs.len rfl sl68) ?_; rfl; rfl) | (refine WL.val ?_ ?_ (Runs.len rfl sl86) ?_; rfl; rfl) | (refine WL.val ?_ ?_ (Runs.len rfl sl113) ?_; rfl; rfl) | (refine WL.pass ?_ ?_ ?_; rfl; rfl))
        refine WL.nil ?_
        repeat (first | refine AtExit.thenRet ?_ | refine AtExit.thenExit ?_ | refine AtExit.blockRet ?_ | refine AtExit.blockEnd ?_ | refine AtExit.blockExit ?_ | (refine AtExit.blockPast ?_ ?_; rfl))
        refine AtExit.go ?_
        refine WC.ret ?_
        repeat (first | refine AtExit.thenRet ?_ | refine AtExit.thenExit ?_ | refine AtExit.blockRet ?_ | refine AtExit.blockEnd ?_ | refine AtExit.blockExit ?_ | (refine AtExit.blockPast ?_ ?_; rfl))
        refine post1 rfl rfl ⟨?_, rfl⟩
        by_cases h0 : k = 0
        · rw [if_pos h0] at hz ⊢
          rw [if_pos hz]
        · rw [if_neg h0, if_neg (by rw [hx (by omega)]; simp)]
    · refine WL.val rfl rfl (Runs.lss rfl rfl (decge hk2)) ?_
      refine WL.nil ?_
      repeat (first | refine AtExit.thenRet ?_ | refine AtExit.thenExit ?_ | refine AtExit.blockRet ?_ | refine AtExit.blockEnd ?_ | refine AtExit.blockExit ?_ | (refine AtExit.blockPast ?_ ?_; rfl))
      refine AtExit.go ?_
      refine WC.seq (WC.condF rfl ?_)
      refine WC.exit ?_
      repeat (first | refine AtExit.thenRet ?_ | refine AtExit.thenExit ?_ | refine AtExit.blockRet ?_ | refine AtExit.blockEnd ?_ | refine AtExit.blockExit ?_ | (refine AtExit.blockPast ?_ ?_; rfl))
      refine AtExit.inv fun av hv => ⟨(), hv.sub (by repeat (first | exact Sub.nil _ | refine Sub.cons rfl ?_)), rfl, hx (by omega), hy (by omega)⟩
  rintro _ w' ⟨rfl, hx, hy⟩
  refine WC.seq (WC.region ?_)
  repeat (first | (refine WL.val ?_ ?_ (Runs.move rfl) ?_; rfl; rfl) | (refine WL.val ?_ ?_ (Runs.assign rfl) ?_; rfl; rfl) | (refine WL.val ?_ ?_ (Runs.extract rfl rfl) ?_; rfl; rfl) | (refine WL.val ?_ ?_ (Runs.nilCheck rfl) ?_; rfl; rfl) | (refine WL.val ?_ ?_ (Runs.pickT rfl rfl) ?_; rfl; rfl) | (refine WL.val ?_ ?_ (Runs.pickF rfl rfl) ?_; rfl; rfl) | (refine WL.val ?_ ?_ (Runs.len rfl sl22) ?_; rfl; rfl) | (refine WL.val ?_ ?_ (Runs.len rfl sl23) ?_; rfl; rfl) | (refine WL.val ?_ ?_ (Runs.len rfl sl27) ?_; rfl; rfl) | (refine WL.val ?_ ?_ (Runs.len rfl sl28) ?_; rfl; rfl) | (refine WL.val ?_ ?_ (Runs.len rfl sl39) ?_; rfl; rfl) | (refine WL.val ?_ ?_ (Runs.len rfl sl64) ?_; rfl; rfl) | (refine WL.val ?_ ?_ (Runs.len rfl sl68) ?_; rfl; rfl) | (refine WL.val ?_ ?_ (Runs.len rfl sl86) ?_; rfl; rfl) | (refine WL.val ?_ ?_ (Runs.len rfl sl113) ?_; rfl; rfl) | (refine WL.pass ?_ ?_ ?_; rfl; rfl))
  refine WL.nil ?_
  repeat (first | refine AtExit.thenRet ?_ | refine AtExit.thenExit ?_ | refine AtExit.blockRet ?_ | refine AtExit.blockEnd ?_ | refine AtExit.blockExit ?_ | (refine AtExit.blockPast ?_ ?_; rfl))
  refine AtExit.go ?_
  refine WC.ret ?_
  repeat (first | refine AtExit.thenRet ?_ | refine AtExit.thenExit ?_ | refine AtExit.blockRet ?_ | refine AtExit.blockEnd ?_ | refine AtExit.blockExit ?_ | (refine AtExit.blockPast ?_ ?_; rfl))
  exact post1 rfl rfl ⟨by rw [hx, hy]; rfl, rfl⟩

/-- A timer's block. -/
def TimerAt (w : World) (t : Nat) (d : Int) (s i : Nat) (f : Value) : Prop := w.heap[t]? = some (.cells #[.int .i64 d, .int .u64 (s : Int), .int .i64 (i : Int), f] 73 (0, 0))
theorem TimerAt.below {w w' : World} {t : Nat} {d : Int} {s i : Nat} {f : Value} (h : TimerAt w t d s i f) (hB : Below w.heap.size w w') : TimerAt w' t d s i f := below_heap hB (lt_of_heap h) h

/-- '[]int{x, y}'. -/
theorem slice2_run (P : Program) (w : World) (t e : TypeId) (x y z : Value) (hx : x.oneCell' = true) (hy : y.oneCell' = true) {bytes : Nat} (ht : P.underlying t = some (.slice e)) (hi : infoB P e = some (some z, 1, bytes)) (hz : z.cells = #[z]) :
    (Instr.buildSlice t 2 #[(0, x), (1, y)]).run P w = .ok (.slice (some ⟨w.heap.size, 0, none⟩) 2 2) (w.alloc (.cells #[x, y] e)) := by
  obtain ⟨i, hi, hz0, hs, hbt⟩ := info_of hi
  have hcx : x.cells = #[x] := by cases x <;> first | rfl | cases hx
  have hcy : y.cells = #[y] := by cases y <;> first | rfl | cases hy
  simp only [Instr.buildSlice, Sem.run_bind, run_underlying ht, Result.andThen, Fr.run_sizeOf (show sizeB P e = some 1 by simp [sizeB, hi, hs])]
  simp [zeroValue, typeInfo, hi, hz0, hz, Instr.fill, hcx, hcy, newRow]
  rw [show Array.range 2 = #[0, 1] from rfl]; simp
theorem Runs.slice2 {P : Program} {n : Nat} {l : List (Nat × Value)} {w : World} {ty t e : TypeId} {a b : Operand} {x y z : Value} {bytes : Nat} (ha : ev l a = some x) (hb : ev l b = some y) (hx : x.oneCell' = true) (hy : y.oneCell' = true)
    (ht : P.underlying t = some (.slice e)) (hi : infoB P e = some (some z, 1, bytes)) (hz : z.cells = #[z]) : Runs P n l (.buildSlice t 2 #[(0, a), (1, b)]) ty w (.slice (some ⟨w.heap.size, 0, none⟩) 2 2) (w.alloc (.cells #[x, y] e)) := by
  refine ⟨fun c d p af g hc => ?_⟩
  have h := slice2_run P w t e x y z hx hy ht hi hz
  simp only [execOp, List.map_toArray, List.map_cons, List.map_nil, hc.ev ha, hc.ev hb, Sem.run_bind, h, Result.andThen]; rfl

theorem fire_any (ta tb : Nat) (da db : Int) (sa sb ia ib : Nat) (fa fb : Value) (w : World) (hA : TimerAt w ta da sa ia fa) (hB : TimerAt w tb db sb ib fb) :
    Calls Yba.prog 17 #[.pointer (some ⟨ta, 0, none⟩), .pointer (some ⟨tb, 0, none⟩)] w fun e w' => e = .returned (.int .i64 (fo da sa db sb)) ∧ Below w.heap.size w w' := by
  refine calls_of Yba.func17 rfl Yba.ntmps17 rfl ?_
  refine WC.seq (WC.region ?_)
  repeat (first | (refine WL.val ?_ ?_ (Runs.move rfl) ?_; rfl; rfl) | (refine WL.val ?_ ?_ (Runs.assign rfl) ?_; rfl; rfl) | (refine WL.val ?_ ?_ (Runs.extract rfl rfl) ?_; rfl; rfl) | (refine WL.val ?_ ?_ (Runs.nilCheck rfl) ?_; rfl; rfl) | (refine WL.val ?_ ?_ (Runs.pickT rfl rfl) ?_; rfl; rfl) | (refine WL.val ?_ ?_ (Runs.pickF rfl rfl) ?_; rfl; rfl) | (refine WL.val ?_ ?_ (Runs.len rfl sl22) ?_; rfl; rfl) | (refine WL.val ?_ ?_ (Runs.len rfl sl23) ?_; rfl; rfl) | (refine WL.val ?_ ?_ (Runs.len rfl sl27) ?_; rfl; rfl) | (refine WL.val ?_ ?_ (Runs.len rfl sl28) ?_; rfl; rfl) | (refine WL.val ?_ ?_ (Runs.len rfl sl39) ?_; rfl; rfl) | (refine WL.val ?_ ?_ (Runs.len rfl sl64) ?_; rfl; rfl) | (refine WL.val ?_ ?_ (Runs.len rfl sl68) ?_; rfl; rfl) | (refine WL.val ?_ ?_ (Runs.len rfl sl86) ?_; rfl; rfl) | (refine WL.val ?_ ?_ (Runs.len rfl sl113) ?_; rfl; rfl) | (refine WL.pass ?_ ?_ ?_; rfl; rfl))
  refine WL.nil ?_
  repeat (first | refine AtExit.thenRet ?_ | refine AtExit.thenExit ?_ | refine AtExit.blockRet ?_ | refine AtExit.blockEnd ?_ | refine AtExit.blockExit ?_ | (refine AtExit.blockPast ?_ ?_; rfl))
  refine AtExit.go ?_
  have a1 : ∀ wq, Below w.heap.size w wq → TimerAt wq ta da sa ia fa := fun wq h => hA.below h
  have b1 : ∀ wq, Below w.heap.size w wq → TimerAt wq tb db sb ib fb := fun wq h => hB.below h
  have hS0 : Below w.heap.size w w.drew := below_drawn _ _ _
  refine WC.seq (WC.held (fun wq => Below w.heap.size w wq) mixed rfl ?_)
  refine HL.take 0 rfl (by kernel_rfl) (by kernel_rfl) (by kernel_rfl) (fun _ _ _ h => h) rfl rfl (fun wq hC => Runs.move rfl) (by assumption) ?_
  refine HL.take 1 rfl (by kernel_rfl) (by kernel_rfl) (by kernel_rfl) (fun _ _ _ h => h) rfl rfl (fun wq hC => Runs.nilCheck rfl) (by assumption) ?_
  refine HL.take 2 rfl (by kernel_rfl) (by kernel_rfl) (by kernel_rfl) (fun _ _ _ h => h) rfl rfl (fun wq hC => Runs.fld rfl fl73_0) (by assumption) ?_
  refine HL.take 3 rfl (by kernel_rfl) (by kernel_rfl) (by kernel_rfl) (fun _ _ _ h => h) rfl rfl (fun wq hC => Runs.load rfl na24 (v := .int .i64 da) (by rw [cell_of (a1 wq hC)]; rfl)) (by assumption) ?_
  refine HL.take 4 rfl (by kernel_rfl) (by kernel_rfl) (by kernel_rfl) (fun _ _ _ h => h) rfl rfl (fun wq hC => Runs.move rfl) (by assumption) ?_
  refine HL.take 5 rfl (by kernel_rfl) (by kernel_rfl) (by kernel_rfl) (fun _ _ _ h => h) rfl rfl (fun wq hC => Runs.nilCheck rfl) (by assumption) ?_
  refine HL.take 6 rfl (by kernel_rfl) (by kernel_rfl) (by kernel_rfl) (fun _ _ _ h => h) rfl rfl (fun wq hC => Runs.fld rfl fl73_0) (by assumption) ?_
  refine HL.take 7 rfl (by kernel_rfl) (by kernel_rfl) (by kernel_rfl) (fun _ _ _ h => h) rfl rfl (fun wq hC => Runs.load rfl na24 (v := .int .i64 db) (by rw [cell_of (b1 wq hC)]; rfl)) (by assumption) ?_
  refine HL.take 9 rfl (by kernel_rfl) (by kernel_rfl) (by kernel_rfl) (fun _ _ _ h => h) rfl rfl (fun wq hC => Runs.move rfl) (by assumption) ?_
  refine HL.take 10 rfl (by kernel_rfl) (by kernel_rfl) (by kernel_rfl) (fun _ _ _ h => h) rfl rfl (fun wq hC => Runs.nilCheck rfl) (by assumption) ?_
  refine HL.take 11 rfl (by kernel_rfl) (by kernel_rfl) (by kernel_rfl) (fun _ _ _ h => h) rfl rfl (fun wq hC => Runs.fld rfl fl73_1) (by assumption) ?_
  refine HL.take 12 rfl (by kernel_rfl) (by kernel_rfl) (by kernel_rfl) (fun _ _ _ h => h) rfl rfl (fun wq hC => Runs.load rfl na25 (v := .int .u64 (sa : Int)) (by rw [cell_of (a1 wq hC)]; rfl)) (by assumption) ?_
  refine HL.take 13 rfl (by kernel_rfl) (by kernel_rfl) (by kernel_rfl) (fun _ _ _ h => h) rfl rfl (fun wq hC => Runs.move rfl) (by assumption) ?_
  refine HL.take 14 rfl (by kernel_rfl) (by kernel_rfl) (by kernel_rfl) (fun _ _ _ h => h) rfl rfl (fun wq hC => Runs.nilCheck rfl) (by assumption) ?_
  refine HL.take 15 rfl (by kernel_rfl) (by kernel_rfl) (by kernel_rfl) (fun _ _ _ h => h) rfl rfl (fun wq hC => Runs.fld rfl fl73_1) (by assumption) ?_
  refine HL.take 16 rfl (by kernel_rfl) (by kernel_rfl) (by kernel_rfl) (fun _ _ _ h => h) rfl rfl (fun wq hC => Runs.load rfl na25 (v := .int .u64 (sb : Int)) (by rw [cell_of (b1 wq hC)]; rfl)) (by assumption) ?_
  refine HL.all1 (i := 8) (by kernel_rfl) ?_
  refine HO.call rfl rfl rfl (RunsC.call rfl en23) (cmpD da db _) ?_
  rintro e w2 ⟨rfl, rfl⟩
  refine ⟨_, rfl, hS0, ?_⟩
  refine HL.all1 (i := 17) (by kernel_rfl) ?_
  refine HO.call rfl rfl rfl (RunsC.call rfl en24) (cmpU sa sb _) ?_
  rintro e w3 ⟨rfl, rfl⟩
  refine ⟨_, rfl, hS0, ?_⟩
  refine HL.all1 (i := 18) (by kernel_rfl) ?_
  have hS1 : Below w.heap.size w (w.drew.alloc (.cells #[.int .i64 (cmpI da db), .int .i64 (cmpI sa sb)] 3)) := hS0.trans (below_new _ _ (Nat.le_refl _))
  refine HO.val rfl rfl rfl (Runs.slice2 rfl rfl rfl rfl Yba.underlying113 in3 rfl) hS1 ?_
  refine HL.all1 (i := 19) (by kernel_rfl) ?_
  refine HO.call rfl rfl rfl (RunsC.call rfl en22) (or_any (cmpI da db) (cmpI sa sb) w.drew.heap.size _ (heap_new _ _)) ?_
  rintro e w4 ⟨rfl, rfl⟩
  refine ⟨_, rfl, hS1, ?_⟩
  refine HL.all1 (i := 20) (by kernel_rfl) ?_
  refine HO.val rfl rfl rfl (Runs.assign rfl) hS1 ?_
  refine HL.done (by kernel_rfl) ?_
  repeat (first | refine AtExit.thenRet ?_ | refine AtExit.thenExit ?_ | refine AtExit.blockRet ?_ | refine AtExit.blockEnd ?_ | refine AtExit.blockExit ?_ | (refine AtExit.blockPast ?_ ?_; rfl))
  refine AtExit.go ?_
  refine WC.ret ?_
  repeat (first | refine AtExit.thenRet ?_ | refine AtExit.thenExit ?_ | refine AtExit.blockRet ?_ | refine AtExit.blockEnd ?_ | refine AtExit.blockExit ?_ | (refine AtExit.blockPast ?_ ?_; rfl))
  exact post1 rfl rfl ⟨rfl, hS1⟩

theorem fo_neg {da db : Int} {sa sb : Nat} : fo da sa db sb < 0 ↔ da < db ∨ (da = db ∧ sa < sb) := by
  unfold fo cmpI
  split <;> (split at * <;> (try split at *) <;> (try split) <;> (try split) <;> omega)
end Go.Proofs.Ybulkgfdm
