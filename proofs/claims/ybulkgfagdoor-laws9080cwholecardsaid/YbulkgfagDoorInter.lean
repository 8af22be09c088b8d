/- quorum.Set.Intersects: is there a word in which both have a bit? -/
import Derived.Test.YbulkgfagDoorFacts
namespace Go.Proofs.YbulkgfagDoor
open Go Go.Fr

/-- Is there a number below n that p takes? -/
def anyLt (p : Nat → Bool) (n : Nat) : Bool := (List.range n).any p
theorem anyLt_true {p : Nat → Bool} {n k : Nat} (hk : k < n) (h : p k = true) : anyLt p n = true := List.any_eq_true.2 ⟨k, List.mem_range.2 hk, h⟩
theorem anyLt_false {p : Nat → Bool} {n : Nat} (h : ∀ k, k < n → p k = false) : anyLt p n = false := by
  unfold anyLt
  rw [List.any_eq_false]
  intro k hk
  rw [h k (List.mem_range.1 hk)]; decide

theorem and64 (x y : Nat) (hx : x < 18446744073709551616) (hy : y < 18446744073709551616) : IntKind.u64.wrap ((BitVec.ofInt IntKind.u64.bits (x : Int) &&& BitVec.ofInt IntKind.u64.bits (y : Int)).toNat : Int) = ((x &&& y : Nat) : Int) := by
  have hb : IntKind.u64.bits = 64 := rfl
  have e1 : (BitVec.ofInt IntKind.u64.bits (x : Int) &&& BitVec.ofInt IntKind.u64.bits (y : Int)).toNat = x &&& y := by
    rw [BitVec.toNat_and]
    simp only [BitVec.toNat_ofInt, hb]
    congr 1 <;> omega
  rw [e1]
  have hlt : x &&& y < 18446744073709551616 := Nat.lt_of_le_of_lt Nat.and_le_left hx
  rw [IntKind.wrap_u64]
  omega

theorem wadd {a b r : Int} (h : a + b = r) (h0 : -9223372036854775808 ≤ r) (h1 : r ≤ 9223372036854775807) : IntKind.i64.wrap (a + b) = r := by rw [h]; exact wrap64_id h0 h1
theorem declt {a b : Nat} (h : a < b) : decide ((a : Int) < (b : Int)) = true := by simpa using h
theorem decge {a b : Nat} (h : ¬ a < b) : decide ((a : Int) < (b : Int)) = false := by simpa using h

theorem inter_any (b o c b' o' c' len len' : Nat) (f g : Nat → Nat) (w : World) (hl : len ≤ len') (hL : len' ≤ 1000000)
    (hf : ∀ k, k < len → w.cell? ⟨b, o + k, none⟩ = some (.int .u64 (f k))) (hg : ∀ k, k < len' → w.cell? ⟨b', o' + k, none⟩ = some (.int .u64 (g k)))
    (hf64 : ∀ k, k < len → f k < 18446744073709551616) (hg64 : ∀ k, k < len' → g k < 18446744073709551616) :
    Calls Ybad.prog 16 #[.slice (some ⟨b, o, none⟩) len c, .slice (some ⟨b', o', none⟩) len' c'] w fun e w' => e = .returned (.bool (anyLt (fun k => f k &&& g k != 0) len)) ∧ w' = w := by
  refine calls_of Ybad.func16 rfl Ybad.ntmps16 rfl ?_
  refine WC.seq (WC.region ?_)
  repeat (first | (refine WL.val ?_ ?_ (Runs.move rfl) ?_; rfl; rfl) | (refine WL.val ?_ ?_ (Runs.assign rfl) ?_; rfl; rfl) | (refine WL.val ?_ ?_ (Runs.extract rfl rfl) ?_; rfl; rfl) | (refine WL.val ?_ ?_ (Runs.nilCheck rfl) ?_; rfl; rfl) | (refine WL.val ?_ ?_ (Runs.pickT rfl rfl) ?_; rfl; rfl) | (refine WL.val ?_ ?_ (Runs.pickF rfl rfl) ?_; rfl; rfl) | (refine WL.val ?_ ?_ (Runs.len rfl sl22) ?_; rfl; rfl) | (refine WL.val ?_ ?_ (Runs.len rfl sl23) ?_; rfl; rfl) | (refine WL.val ?_ ?_ (Runs.len rfl sl24) ?_; rfl; rfl) | (refine WL.val ?_ ?_ (Runs.len rfl sl26) ?_; rfl; rfl) | (refine WL.val ?_ ?_ (Runs.len rfl sl27) ?_; rfl; rfl) | (refine WL.val ?_ ?_ (Runs.len rfl sl48) ?_; rfl; rfl) | (refine WL.val ?_ ?_ (Runs.len rfl sl60) ?_; rfl; rfl) | (refine WL.pass ?_ ?_ ?_; rfl; rfl))
  refine WL.nil ?_
  repeat (first | refine AtExit.thenRet ?_ | refine AtExit.thenExit ?_ | refine AtExit.blockRet ?_ | refine AtExit.blockEnd ?_ | refine AtExit.blockExit ?_ | (refine AtExit.blockPast ?_ ?_; rfl))
  refine AtExit.go ?_
  refine WC.cut (α := Unit) (fun _ => []) (fun _ w' => w' = w ∧ anyLt (fun k => f k &&& g k != 0) len = false) ?_ ?_
  · refine WC.seq (WC.region ?_)
    repeat (first | (refine WL.val ?_ ?_ (Runs.move rfl) ?_; rfl; rfl) | (refine WL.val ?_ ?_ (Runs.assign rfl) ?_; rfl; rfl) | (refine WL.val ?_ ?_ (Runs.extract rfl rfl) ?_; rfl; rfl) | (refine WL.val ?_ ?_ (Runs.nilCheck rfl) ?_; rfl; rfl) | (refine WL.val ?_ ?_ (Runs.pickT rfl rfl) ?_; rfl; rfl) | (refine WL.val ?_ ?_ (Runs.pickF rfl rfl) ?_; rfl; rfl) | (refine WL.val ?_ ?_ (Runs.len rfl sl22) ?_; rfl; rfl) | (refine WL.val ?_ ?_ (Runs.len rfl sl23) ?_; rfl; rfl) | (refine WL.val ?_ ?_ (Runs.len rfl sl24) ?_; rfl; rfl) | (refine WL.val ?_ ?_ (Runs.len rfl sl26) ?_; rfl; rfl) | (refine WL.val ?_ ?_ (Runs.len rfl sl27) ?_; rfl; rfl) | (refine WL.val ?_ ?_ (Runs.len rfl sl48) ?_; rfl; rfl) | (refine WL.val ?_ ?_ (Runs.len rfl sl60) ?_; rfl; rfl) | (refine WL.pass ?_ ?_ ?_; rfl; rfl))
    refine WL.nil ?_
    repeat (first | refine AtExit.thenRet ?_ | refine AtExit.thenExit ?_ | refine AtExit.blockRet ?_ | refine AtExit.blockEnd ?_ | refine AtExit.blockExit ?_ | (refine AtExit.blockPast ?_ ?_; rfl))
    refine AtExit.go ?_
    refine WC.block ?_
    refine WC.loop (α := Nat) (fun k => [(1, .slice (some ⟨b', o', none⟩) len' c'), (7, .slice (some ⟨b, o, none⟩) len c), (8, .int .i64 len), (9, .int .i64 k)])
      (fun k w' => w' = w ∧ k ≤ len ∧ ∀ j, j < k → (f j &&& g j != 0) = false) (fun k => len - k) 0
      (by repeat (first | exact Sub.nil _ | refine Sub.cons rfl ?_)) ⟨rfl, Nat.zero_le _, fun j hj => absurd hj (Nat.not_lt_zero _)⟩ ?_
    rintro k w' ⟨rfl, hk, hno⟩
    refine WC.seq (WC.region ?_)
    by_cases hkl : k < len
    · refine WL.val rfl rfl (Runs.lss rfl rfl (declt hkl)) ?_
      refine WL.nil ?_
      repeat (first | refine AtExit.thenRet ?_ | refine AtExit.thenExit ?_ | refine AtExit.blockRet ?_ | refine AtExit.blockEnd ?_ | refine AtExit.blockExit ?_ | (refine AtExit.blockPast ?_ ?_; rfl))
      refine AtExit.go ?_
      refine WC.seq (WC.condT rfl ?_)
      refine WC.skip ?_
      repeat (first | refine AtExit.thenRet ?_ | refine AtExit.thenExit ?_ | refine AtExit.blockRet ?_ | refine AtExit.blockEnd ?_ | refine AtExit.blockExit ?_ | (refine AtExit.blockPast ?_ ?_; rfl))
      refine AtExit.go ?_
      refine WC.seq (WC.block ?_)
      refine WC.seq (WC.region ?_)
      repeat (first | (refine WL.val ?_ ?_ (Runs.move rfl) ?_; rfl; rfl) | (refine WL.val ?_ ?_ (Runs.assign rfl) ?_; rfl; rfl) | (refine WL.val ?_ ?_ (Runs.extract rfl rfl) ?_; rfl; rfl) | (refine WL.val ?_ ?_ (Runs.nilCheck rfl) ?_; rfl; rfl) | (refine WL.val ?_ ?_ (Runs.pickT rfl rfl) ?_; rfl; rfl) | (refine WL.val ?_ ?_ (Runs.pickF rfl rfl) ?_; rfl; rfl) | (refine WL.val ?_ ?_ (Runs.len rfl sl22) ?_; rfl; rfl) | (refine WL.val ?_ ?_ (Runs.len rfl sl23) ?_; rfl; rfl) | (refine WL.val ?_ ?_ (Runs.len rfl sl24) ?_; rfl; rfl) | (refine WL.val ?_ ?_ (Runs.len rfl sl26) ?_; rfl; rfl) | (refine WL.val ?_ ?_ (Runs.len rfl sl27) ?_; rfl; rfl) | (refine WL.val ?_ ?_ (Runs.len rfl sl48) ?_; rfl; rfl) | (refine WL.val ?_ ?_ (Runs.len rfl sl60) ?_; rfl; rfl) | (refine WL.pass ?_ ?_ ?_; rfl; rfl))
      refine WL.val rfl rfl (Runs.idx1 rfl rfl Ybad.underlying60 sz61 rfl hkl) ?_
      refine WL.val rfl rfl (Runs.load rfl na61 (hf k hkl)) ?_
      repeat (first | (refine WL.val ?_ ?_ (Runs.move rfl) ?_; rfl; rfl) | (refine WL.val ?_ ?_ (Runs.assign rfl) ?_; rfl; rfl) | (refine WL.val ?_ ?_ (Runs.extract rfl rfl) ?_; rfl; rfl) | (refine WL.val ?_ ?_ (Runs.nilCheck rfl) ?_; rfl; rfl) | (refine WL.val ?_ ?_ (Runs.pickT rfl rfl) ?_; rfl; rfl) | (refine WL.val ?_ ?_ (Runs.pickF rfl rfl) ?_; rfl; rfl) | (refine WL.val ?_ ?_ (Runs.len rfl sl22) ?_; rfl; rfl) | (refine WL.val ?_ ?_ (Runs.len rfl sl23) ?_; rfl; rfl) | (refine WL.val ?_ ?_ (Runs.len rfl sl24) ?_; rfl; rfl) | (refine WL.val ?_ ?_ (Runs.len rfl sl26) ?_; rfl; rfl) | (refine WL.val ?_ ?_ (Runs.len rfl sl27) ?_; rfl; rfl) | (refine WL.val ?_ ?_ (Runs.len rfl sl48) ?_; rfl; rfl) | (refine WL.val ?_ ?_ (Runs.len rfl sl60) ?_; rfl; rfl) | (refine WL.pass ?_ ?_ ?_; rfl; rfl))
      refine WL.nil ?_
      repeat (first | refine AtExit.thenRet ?_ | refine AtExit.thenExit ?_ | refine AtExit.blockRet ?_ | refine AtExit.blockEnd ?_ | refine AtExit.blockExit ?_ | (refine AtExit.blockPast ?_ ?_; rfl))
      refine AtExit.go ?_
      refine WC.seq (WC.region ?_)
      repeat (first | (refine WL.val ?_ ?_ (Runs.move rfl) ?_; rfl; rfl) | (refine WL.val ?_ ?_ (Runs.assign rfl) ?_; rfl; rfl) | (refine WL.val ?_ ?_ (Runs.extract rfl rfl) ?_; rfl; rfl) | (refine WL.val ?_ ?_ (Runs.nilCheck rfl) ?_; rfl; rfl) | (refine WL.val ?_ ?_ (Runs.pickT rfl rfl) ?_; rfl; rfl) | (refine WL.val ?_ ?_ (Runs.pickF rfl rfl) ?_; rfl; rfl) | (refine WL.val ?_ ?_ (Runs.len rfl sl22) ?_; rfl; rfl) | (refine WL.val ?_ ?_ (Runs.len rfl sl23) ?_; rfl; rfl) | (refine WL.val ?_ ?_ (Runs.len rfl sl24) ?_; rfl; rfl) | (refine WL.val ?_ ?_ (Runs.len rfl sl26) ?_; rfl; rfl) | (refine WL.val ?_ ?_ (Runs.len rfl sl27) ?_; rfl; rfl) | (refine WL.val ?_ ?_ (Runs.len rfl sl48) ?_; rfl; rfl) | (refine WL.val ?_ ?_ (Runs.len rfl sl60) ?_; rfl; rfl) | (refine WL.pass ?_ ?_ ?_; rfl; rfl))
      refine WL.val rfl rfl (Runs.idx1 rfl rfl Ybad.underlying60 sz61 rfl (by omega)) ?_
      refine WL.val rfl rfl (Runs.load rfl na61 (hg k (by omega))) ?_
      refine WL.val rfl rfl (Runs.and rfl rfl (and64 (f k) (g k) (hf64 k hkl) (hg64 k (by omega)))) ?_
      by_cases hz : f k &&& g k = 0
      · refine WL.val rfl rfl (Runs.neq rfl rfl (r := false) (by rw [hz]; rfl)) ?_
        refine WL.nil ?_
        repeat (first | refine AtExit.thenRet ?_ | refine AtExit.thenExit ?_ | refine AtExit.blockRet ?_ | refine AtExit.blockEnd ?_ | refine AtExit.blockExit ?_ | (refine AtExit.blockPast ?_ ?_; rfl))
        refine AtExit.go ?_
        refine WC.condF rfl ?_
        refine WC.skip ?_
        repeat (first | refine AtExit.thenRet ?_ | refine AtExit.thenExit ?_ | refine AtExit.blockRet ?_ | refine AtExit.blockEnd ?_ | refine AtExit.blockExit ?_ | (refine AtExit.blockPast ?_ ?_; rfl))
        refine AtExit.go ?_
        refine WC.region ?_
        refine WL.val rfl rfl (Runs.add rfl rfl (wadd (r := ((k + 1 : Nat) : Int)) (by omega) (by omega) (by omega))) ?_
        repeat (first | (refine WL.val ?_ ?_ (Runs.move rfl) ?_; rfl; rfl) | (refine WL.val ?_ ?_ (Runs.assign rfl) ?_; rfl; rfl) | (refine WL.val ?_ ?_ (Runs.extract rfl rfl) ?_; rfl; rfl) | (refine WL.val ?_ ?_ (Runs.nilCheck rfl) ?_; rfl; rfl) | (refine WL.val ?_ ?_ (Runs.pickT rfl rfl) ?_; rfl; rfl) | (refine WL.val ?_ ?_ (Runs.pickF rfl rfl) ?_; rfl; rfl) | (refine WL.val ?_ ?_ (Runs.len rfl sl22) ?_; rfl; rfl) | (refine WL.val ?_ ?_ (Runs.len rfl sl23) ?_; rfl; rfl) | (refine WL.val ?_ ?_ (Runs.len rfl sl24) ?_; rfl; rfl) | (refine WL.val ?_ ?_ (Runs.len rfl sl26) ?_; rfl; rfl) | (refine WL.val ?_ ?_ (Runs.len rfl sl27) ?_; rfl; rfl) | (refine WL.val ?_ ?_ (Runs.len rfl sl48) ?_; rfl; rfl) | (refine WL.val ?_ ?_ (Runs.len rfl sl60) ?_; rfl; rfl) | (refine WL.pass ?_ ?_ ?_; rfl; rfl))
        refine WL.nil ?_
        repeat (first | refine AtExit.thenRet ?_ | refine AtExit.thenExit ?_ | refine AtExit.blockRet ?_ | refine AtExit.blockEnd ?_ | refine AtExit.blockExit ?_ | (refine AtExit.blockPast ?_ ?_; rfl))
        refine AtExit.inv fun a ha => ⟨k + 1, ha.sub (by repeat (first | exact Sub.nil _ | refine Sub.cons rfl ?_)), ⟨rfl, by omega, fun j hj => ?_⟩, by omega⟩
        by_cases hjk : j < k
        · exact hno j hjk
        · rw [show j = k from by omega, hz]; rfl
      · have hz' : ¬ (((f k &&& g k : Nat) : Int) = 0) := by omega
        refine WL.val rfl rfl (Runs.neq rfl rfl (r := true) (by rw [decide_eq_false hz']; rfl)) ?_
        refine WL.nil ?_
        repeat (first | refine AtExit.thenRet ?_ | refine AtExit.thenExit ?_ | refine AtExit.blockRet ?_ | refine AtExit.blockEnd ?_ | refine AtExit.blockExit ?_ | (refine AtExit.blockPast ?_ ?_; rfl))
        refine AtExit.go ?_
        refine WC.condT rfl ?_
        refine WC.seq (WC.region ?_)
        repeat (first | (refine WL.val ?_ ?_ (Runs.move rfl) ?_; rfl; rfl) | (refine WL.val ?_ ?_ (Runs.assign rfl) ?_; rfl; rfl) | (refine WL.val ?_ ?_ (Runs.extract rfl rfl) ?_; rfl; rfl) | (refine WL.val ?_ ?_ (Runs.nilCheck rfl) ?_; rfl; rfl) | (refine WL.val ?_ ?_ (Runs.pickT rfl rfl) ?_; rfl; rfl) | (refine WL.val ?_ ?_ (Runs.pickF rfl rfl) ?_; rfl; rfl) | (refine WL.val ?_ ?_ (Runs.len rfl sl22) ?_; rfl; rfl) | (refine WL.val ?_ ?_ (Runs.len rfl sl23) ?_; rfl; rfl) | (refine WL.val ?_ ?_ (Runs.len rfl sl24) ?_; rfl; rfl) | (refine WL.val ?_ ?_ (Runs.len rfl sl26) ?_; rfl; rfl) | (refine WL.val ?_ ?_ (Runs.len rfl sl27) ?_; rfl; rfl) | (refine WL.val ?_ ?_ (Runs.len rfl sl48) ?_; rfl; rfl) | (refine WL.val ?_ ?_ (Runs.len rfl sl60) ?_; rfl; rfl) | (refine WL.pass ?_ ?_ ?_; rfl; rfl))
        refine WL.nil ?_
        repeat (first | refine AtExit.thenRet ?_ | refine AtExit.thenExit ?_ | refine AtExit.blockRet ?_ | refine AtExit.blockEnd ?_ | refine AtExit.blockExit ?_ | (refine AtExit.blockPast ?_ ?_; rfl))
        refine AtExit.go ?_
        refine WC.ret ?_
        repeat (first | refine AtExit.thenRet ?_ | refine AtExit.thenExit ?_ | refine AtExit.blockRet ?_ | refine AtExit.blockEnd ?_ | refine AtExit.blockExit ?_ | (refine AtExit.blockPast ?_ ?_; rfl))
        refine post1 rfl rfl ⟨?_, rfl⟩
        rw [anyLt_true (p := fun k => f k &&& g k != 0) hkl (by simpa using hz)]
    · refine WL.val rfl rfl (Runs.lss rfl rfl (decge hkl)) ?_
      refine WL.nil ?_
      repeat (first | refine AtExit.thenRet ?_ | refine AtExit.thenExit ?_ | refine AtExit.blockRet ?_ | refine AtExit.blockEnd ?_ | refine AtExit.blockExit ?_ | (refine AtExit.blockPast ?_ ?_; rfl))
      refine AtExit.go ?_
      refine WC.seq (WC.condF rfl ?_)
      refine WC.exit ?_
      repeat (first | refine AtExit.thenRet ?_ | refine AtExit.thenExit ?_ | refine AtExit.blockRet ?_ | refine AtExit.blockEnd ?_ | refine AtExit.blockExit ?_ | (refine AtExit.blockPast ?_ ?_; rfl))
      refine AtExit.inv fun a ha => ⟨(), ha.sub (Sub.nil _), rfl, anyLt_false fun j hj => hno j (by omega)⟩
  · rintro _ w' ⟨rfl, h0⟩
    refine WC.seq (WC.region ?_)
    repeat (first | (refine WL.val ?_ ?_ (Runs.move rfl) ?_; rfl; rfl) | (refine WL.val ?_ ?_ (Runs.assign rfl) ?_; rfl; rfl) | (refine WL.val ?_ ?_ (Runs.extract rfl rfl) ?_; rfl; rfl) | (refine WL.val ?_ ?_ (Runs.nilCheck rfl) ?_; rfl; rfl) | (refine WL.val ?_ ?_ (Runs.pickT rfl rfl) ?_; rfl; rfl) | (refine WL.val ?_ ?_ (Runs.pickF rfl rfl) ?_; rfl; rfl) | (refine WL.val ?_ ?_ (Runs.len rfl sl22) ?_; rfl; rfl) | (refine WL.val ?_ ?_ (Runs.len rfl sl23) ?_; rfl; rfl) | (refine WL.val ?_ ?_ (Runs.len rfl sl24) ?_; rfl; rfl) | (refine WL.val ?_ ?_ (Runs.len rfl sl26) ?_; rfl; rfl) | (refine WL.val ?_ ?_ (Runs.len rfl sl27) ?_; rfl; rfl) | (refine WL.val ?_ ?_ (Runs.len rfl sl48) ?_; rfl; rfl) | (refine WL.val ?_ ?_ (Runs.len rfl sl60) ?_; rfl; rfl) | (refine WL.pass ?_ ?_ ?_; rfl; rfl))
    refine WL.nil ?_
    repeat (first | refine AtExit.thenRet ?_ | refine AtExit.thenExit ?_ | refine AtExit.blockRet ?_ | refine AtExit.blockEnd ?_ | refine AtExit.blockExit ?_ | (refine AtExit.blockPast ?_ ?_; rfl))
    refine AtExit.go ?_
    refine WC.ret ?_
    repeat (first | refine AtExit.thenRet ?_ | refine AtExit.thenExit ?_ | refine AtExit.blockRet ?_ | refine AtExit.blockEnd ?_ | refine AtExit.blockExit ?_ | (refine AtExit.blockPast ?_ ?_; rfl))
    exact post1 rfl rfl ⟨by rw [h0], rfl⟩
end Go.Proofs.YbulkgfagDoor
