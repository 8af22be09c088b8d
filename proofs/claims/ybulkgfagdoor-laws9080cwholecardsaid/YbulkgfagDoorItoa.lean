/- zzs9080citoa: the decimal digits of k, for 1 ≤ k. -/
import Derived.Test.YbulkgfagDoorInter
import Derived.Lib.ItoaMem
namespace Go.Proofs.YbulkgfagDoor
open Go Go.Fr Go.RowKit

/-- A []byte of the call's own (nil where it holds nothing) that holds the bytes D. -/
def OwnB (w : World) (v : Value) (D : List UInt8) : Prop :=
  (v = .slice none 0 0 ∧ D = []) ∨ ∃ (g cap : Nat) (c : Array Value), v = .slice (some ⟨g, 0, none⟩) D.length cap ∧ D ≠ [] ∧ w.heap[g]? = some (.cells c 5 (0, 0)) ∧ ∀ (i : Nat) (x : UInt8), D[i]? = some x → c[i]? = some (Value.int .u8 (x.toNat : Int))

/-- What of the digits is still to come. -/
def pre (k : Nat) : List UInt8 := if k = 0 then [] else Lib.decDigits k
theorem pre_step {k : Nat} (h : 0 < k) : pre k = pre (k / 10) ++ [UInt8.ofNat (48 + k % 10)] := by
  unfold pre
  rw [if_neg (by omega)]
  by_cases h10 : k < 10
  · rw [if_pos (by omega), Lib.decDigits_one h10]
    rw [show k % 10 = k from by omega]; rfl
  · rw [if_neg (by omega), Lib.decDigits, dif_neg h10]

theorem itoa_any (k0 : Nat) (w : World) (h0 : 0 < k0) (h1 : k0 ≤ 1000000) :
    Calls Ybad.prog 4 #[.int .i64 (k0 : Int)] w fun e w' => e = .returned (.string ⟨(Lib.decDigits k0).toArray⟩) ∧ Below w.heap.size w w' := by
  refine calls_of Ybad.func4 rfl Ybad.ntmps4 rfl ?_
  refine WC.seq (WC.region ?_)
  repeat (first | (refine WL.val ?_ ?_ (Runs.move rfl) ?_; rfl; rfl) | (refine WL.val ?_ ?_ (Runs.assign rfl) ?_; rfl; rfl) | (refine WL.val ?_ ?_ (Runs.extract rfl rfl) ?_; rfl; rfl) | (refine WL.val ?_ ?_ (Runs.nilCheck rfl) ?_; rfl; rfl) | (refine WL.val ?_ ?_ (Runs.pickT rfl rfl) ?_; rfl; rfl) | (refine WL.val ?_ ?_ (Runs.pickF rfl rfl) ?_; rfl; rfl) | (refine WL.val ?_ ?_ (Runs.len rfl sl22) ?_; rfl; rfl) | (refine WL.val ?_ ?_ (Runs.len rfl sl23) ?_; rfl; rfl) | (refine WL.val ?_ ?_ (Runs.len rfl sl24) ?_; rfl; rfl) | (refine WL.val ?_ ?_ (Runs.len rfl sl26) ?_; rfl; rfl) | (refine WL.val ?_ ?_ (Runs.len rfl sl27) ?_; rfl; rfl) | (refine WL.val ?_ ?_ (Runs.len rfl sl48) ?_; rfl; rfl) | (refine WL.val ?_ ?_ (Runs.len rfl sl60) ?_; rfl; rfl) | (refine WL.pass ?_ ?_ ?_; rfl; rfl))
  refine WL.nil ?_
  repeat (first | refine AtExit.thenRet ?_ | refine AtExit.thenExit ?_ | refine AtExit.blockRet ?_ | refine AtExit.blockEnd ?_ | refine AtExit.blockExit ?_ | (refine AtExit.blockPast ?_ ?_; rfl))
  refine AtExit.go ?_
  refine WC.seq ?_
  refine WC.seq (WC.region ?_)
  repeat (first | (refine WL.val ?_ ?_ (Runs.move rfl) ?_; rfl; rfl) | (refine WL.val ?_ ?_ (Runs.assign rfl) ?_; rfl; rfl) | (refine WL.val ?_ ?_ (Runs.extract rfl rfl) ?_; rfl; rfl) | (refine WL.val ?_ ?_ (Runs.nilCheck rfl) ?_; rfl; rfl) | (refine WL.val ?_ ?_ (Runs.pickT rfl rfl) ?_; rfl; rfl) | (refine WL.val ?_ ?_ (Runs.pickF rfl rfl) ?_; rfl; rfl) | (refine WL.val ?_ ?_ (Runs.len rfl sl22) ?_; rfl; rfl) | (refine WL.val ?_ ?_ (Runs.len rfl sl23) ?_; rfl; rfl) | (refine WL.val ?_ ?_ (Runs.len rfl sl24) ?_; rfl; rfl) | (refine WL.val ?_ ?_ (Runs.len rfl sl26) ?_; rfl; rfl) | (refine WL.val ?_ ?_ (Runs.len rfl sl27) ?_; rfl; rfl) | (refine WL.val ?_ ?_ (Runs.len rfl sl48) ?_; rfl; rfl) | (refine WL.val ?_ ?_ (Runs.len rfl sl60) ?_; rfl; rfl) | (refine WL.pass ?_ ?_ ?_; rfl; rfl))
  refine WL.val rfl rfl (Runs.leq rfl rfl (r := false) (by simp; omega)) ?_
  refine WL.nil ?_
  repeat (first | refine AtExit.thenRet ?_ | refine AtExit.thenExit ?_ | refine AtExit.blockRet ?_ | refine AtExit.blockEnd ?_ | refine AtExit.blockExit ?_ | (refine AtExit.blockPast ?_ ?_; rfl))
  refine AtExit.go ?_
  refine WC.condF rfl ?_
  refine WC.skip ?_
  repeat (first | refine AtExit.thenRet ?_ | refine AtExit.thenExit ?_ | refine AtExit.blockRet ?_ | refine AtExit.blockEnd ?_ | refine AtExit.blockExit ?_ | (refine AtExit.blockPast ?_ ?_; rfl))
  refine AtExit.go ?_
  refine WC.seq (WC.region ?_)
  repeat (first | (refine WL.val ?_ ?_ (Runs.move rfl) ?_; rfl; rfl) | (refine WL.val ?_ ?_ (Runs.assign rfl) ?_; rfl; rfl) | (refine WL.val ?_ ?_ (Runs.extract rfl rfl) ?_; rfl; rfl) | (refine WL.val ?_ ?_ (Runs.nilCheck rfl) ?_; rfl; rfl) | (refine WL.val ?_ ?_ (Runs.pickT rfl rfl) ?_; rfl; rfl) | (refine WL.val ?_ ?_ (Runs.pickF rfl rfl) ?_; rfl; rfl) | (refine WL.val ?_ ?_ (Runs.len rfl sl22) ?_; rfl; rfl) | (refine WL.val ?_ ?_ (Runs.len rfl sl23) ?_; rfl; rfl) | (refine WL.val ?_ ?_ (Runs.len rfl sl24) ?_; rfl; rfl) | (refine WL.val ?_ ?_ (Runs.len rfl sl26) ?_; rfl; rfl) | (refine WL.val ?_ ?_ (Runs.len rfl sl27) ?_; rfl; rfl) | (refine WL.val ?_ ?_ (Runs.len rfl sl48) ?_; rfl; rfl) | (refine WL.val ?_ ?_ (Runs.len rfl sl60) ?_; rfl; rfl) | (refine WL.pass ?_ ?_ ?_; rfl; rfl))
  refine WL.nil ?_
  repeat (first | refine AtExit.thenRet ?_ | refine AtExit.thenExit ?_ | refine AtExit.blockRet ?_ | refine AtExit.blockEnd ?_ | refine AtExit.blockExit ?_ | (refine AtExit.blockPast ?_ ?_; rfl))
  refine AtExit.go ?_
  refine WC.cut (α := Value) (fun v => [(3, v)]) (fun v w' => OwnB w' v (Lib.decDigits k0) ∧ Below w.heap.size w w') ?_ ?_
  · refine WC.block ?_
    refine WC.loop (α := Nat × List UInt8 × Value) (fun x => [(0, .int .i64 (x.1 : Int)), (3, x.2.2)])
      (fun x w' => x.1 ≤ k0 ∧ OwnB w' x.2.2 x.2.1 ∧ Below w.heap.size w w' ∧ Lib.decDigits k0 = pre x.1 ++ x.2.1 ∧ x.2.1.length + x.1 ≤ k0) (fun x => x.1) (k0, [], .slice none 0 0)
      (by repeat (first | exact Sub.nil _ | refine Sub.cons rfl ?_)) ⟨Nat.le_refl _, (Or.inl ⟨rfl, rfl⟩ : OwnB w (.slice none 0 0) []), Below.refl _ _, by simp [pre, Nat.ne_of_gt h0], by simp⟩ ?_
    rintro ⟨k, D, v⟩ w' ⟨hk, hv, hb, hd, hlen⟩
    dsimp only at hk hv hd hlen
    refine WC.seq ?_
    refine WC.seq (WC.region ?_)
    repeat (first | (refine WL.val ?_ ?_ (Runs.move rfl) ?_; rfl; rfl) | (refine WL.val ?_ ?_ (Runs.assign rfl) ?_; rfl; rfl) | (refine WL.val ?_ ?_ (Runs.extract rfl rfl) ?_; rfl; rfl) | (refine WL.val ?_ ?_ (Runs.nilCheck rfl) ?_; rfl; rfl) | (refine WL.val ?_ ?_ (Runs.pickT rfl rfl) ?_; rfl; rfl) | (refine WL.val ?_ ?_ (Runs.pickF rfl rfl) ?_; rfl; rfl) | (refine WL.val ?_ ?_ (Runs.len rfl sl22) ?_; rfl; rfl) | (refine WL.val ?_ ?_ (Runs.len rfl sl23) ?_; rfl; rfl) | (refine WL.val ?_ ?_ (Runs.len rfl sl24) ?_; rfl; rfl) | (refine WL.val ?_ ?_ (Runs.len rfl sl26) ?_; rfl; rfl) | (refine WL.val ?_ ?_ (Runs.len rfl sl27) ?_; rfl; rfl) | (refine WL.val ?_ ?_ (Runs.len rfl sl48) ?_; rfl; rfl) | (refine WL.val ?_ ?_ (Runs.len rfl sl60) ?_; rfl; rfl) | (refine WL.pass ?_ ?_ ?_; rfl; rfl))
    by_cases hz : 0 < k
    · refine WL.val rfl rfl (Runs.gtr rfl rfl (r := true) (by simpa using hz)) ?_
      refine WL.nil ?_
      repeat (first | refine AtExit.thenRet ?_ | refine AtExit.thenExit ?_ | refine AtExit.blockRet ?_ | refine AtExit.blockEnd ?_ | refine AtExit.blockExit ?_ | (refine AtExit.blockPast ?_ ?_; rfl))
      refine AtExit.go ?_
      refine WC.condT rfl ?_
      refine WC.skip ?_
      repeat (first | refine AtExit.thenRet ?_ | refine AtExit.thenExit ?_ | refine AtExit.blockRet ?_ | refine AtExit.blockEnd ?_ | refine AtExit.blockExit ?_ | (refine AtExit.blockPast ?_ ?_; rfl))
      refine AtExit.go ?_
      refine WC.block ?_
      refine WC.seq (WC.region ?_)
      repeat (first | (refine WL.val ?_ ?_ (Runs.move rfl) ?_; rfl; rfl) | (refine WL.val ?_ ?_ (Runs.assign rfl) ?_; rfl; rfl) | (refine WL.val ?_ ?_ (Runs.extract rfl rfl) ?_; rfl; rfl) | (refine WL.val ?_ ?_ (Runs.nilCheck rfl) ?_; rfl; rfl) | (refine WL.val ?_ ?_ (Runs.pickT rfl rfl) ?_; rfl; rfl) | (refine WL.val ?_ ?_ (Runs.pickF rfl rfl) ?_; rfl; rfl) | (refine WL.val ?_ ?_ (Runs.len rfl sl22) ?_; rfl; rfl) | (refine WL.val ?_ ?_ (Runs.len rfl sl23) ?_; rfl; rfl) | (refine WL.val ?_ ?_ (Runs.len rfl sl24) ?_; rfl; rfl) | (refine WL.val ?_ ?_ (Runs.len rfl sl26) ?_; rfl; rfl) | (refine WL.val ?_ ?_ (Runs.len rfl sl27) ?_; rfl; rfl) | (refine WL.val ?_ ?_ (Runs.len rfl sl48) ?_; rfl; rfl) | (refine WL.val ?_ ?_ (Runs.len rfl sl60) ?_; rfl; rfl) | (refine WL.pass ?_ ?_ ?_; rfl; rfl))
      refine WL.val rfl rfl (Runs.rem rfl rfl (r := ((k % 10 : Nat) : Int)) (by decide) (by rw [Int.tmod_eq_emod_of_nonneg (by omega)]; omega)) ?_
      refine WL.val rfl rfl (Runs.add rfl rfl (wadd (r := ((48 + k % 10 : Nat) : Int)) (by omega) (by omega) (by omega))) ?_
      refine WL.val rfl rfl (Runs.conv rfl (by rw [Ybad.underlying3]; rfl) Ybad.underlying5 (r := ((48 + k % 10 : Nat) : Int)) (by rw [IntKind.wrap_u8]; omega)) ?_
      refine WL.val rfl rfl (Runs.slice1 rfl rfl Ybad.underlying23 in5 rfl) ?_
      repeat (first | (refine WL.val ?_ ?_ (Runs.move rfl) ?_; rfl; rfl) | (refine WL.val ?_ ?_ (Runs.assign rfl) ?_; rfl; rfl) | (refine WL.val ?_ ?_ (Runs.extract rfl rfl) ?_; rfl; rfl) | (refine WL.val ?_ ?_ (Runs.nilCheck rfl) ?_; rfl; rfl) | (refine WL.val ?_ ?_ (Runs.pickT rfl rfl) ?_; rfl; rfl) | (refine WL.val ?_ ?_ (Runs.pickF rfl rfl) ?_; rfl; rfl) | (refine WL.val ?_ ?_ (Runs.len rfl sl22) ?_; rfl; rfl) | (refine WL.val ?_ ?_ (Runs.len rfl sl23) ?_; rfl; rfl) | (refine WL.val ?_ ?_ (Runs.len rfl sl24) ?_; rfl; rfl) | (refine WL.val ?_ ?_ (Runs.len rfl sl26) ?_; rfl; rfl) | (refine WL.val ?_ ?_ (Runs.len rfl sl27) ?_; rfl; rfl) | (refine WL.val ?_ ?_ (Runs.len rfl sl48) ?_; rfl; rfl) | (refine WL.val ?_ ?_ (Runs.len rfl sl60) ?_; rfl; rfl) | (refine WL.pass ?_ ?_ ?_; rfl; rfl))
      have hdl := pre_step hz
      rcases hv with ⟨rfl, rfl⟩ | ⟨g, cap, c, rfl, hne, hg, hc⟩
      · refine WL.val rfl rfl (Runs.append rfl (run_append_none _ 23 _ 5 1 _ 1 1 0 none Ybad.underlying23 sz5 (Nat.le_refl _) rfl)) ?_
        repeat (first | (refine WL.val ?_ ?_ (Runs.move rfl) ?_; rfl; rfl) | (refine WL.val ?_ ?_ (Runs.assign rfl) ?_; rfl; rfl) | (refine WL.val ?_ ?_ (Runs.extract rfl rfl) ?_; rfl; rfl) | (refine WL.val ?_ ?_ (Runs.nilCheck rfl) ?_; rfl; rfl) | (refine WL.val ?_ ?_ (Runs.pickT rfl rfl) ?_; rfl; rfl) | (refine WL.val ?_ ?_ (Runs.pickF rfl rfl) ?_; rfl; rfl) | (refine WL.val ?_ ?_ (Runs.len rfl sl22) ?_; rfl; rfl) | (refine WL.val ?_ ?_ (Runs.len rfl sl23) ?_; rfl; rfl) | (refine WL.val ?_ ?_ (Runs.len rfl sl24) ?_; rfl; rfl) | (refine WL.val ?_ ?_ (Runs.len rfl sl26) ?_; rfl; rfl) | (refine WL.val ?_ ?_ (Runs.len rfl sl27) ?_; rfl; rfl) | (refine WL.val ?_ ?_ (Runs.len rfl sl48) ?_; rfl; rfl) | (refine WL.val ?_ ?_ (Runs.len rfl sl60) ?_; rfl; rfl) | (refine WL.pass ?_ ?_ ?_; rfl; rfl))
        refine WL.nil ?_
        repeat (first | refine AtExit.thenRet ?_ | refine AtExit.thenExit ?_ | refine AtExit.blockRet ?_ | refine AtExit.blockEnd ?_ | refine AtExit.blockExit ?_ | (refine AtExit.blockPast ?_ ?_; rfl))
        refine AtExit.go ?_
        refine WC.region ?_
        repeat (first | (refine WL.val ?_ ?_ (Runs.move rfl) ?_; rfl; rfl) | (refine WL.val ?_ ?_ (Runs.assign rfl) ?_; rfl; rfl) | (refine WL.val ?_ ?_ (Runs.extract rfl rfl) ?_; rfl; rfl) | (refine WL.val ?_ ?_ (Runs.nilCheck rfl) ?_; rfl; rfl) | (refine WL.val ?_ ?_ (Runs.pickT rfl rfl) ?_; rfl; rfl) | (refine WL.val ?_ ?_ (Runs.pickF rfl rfl) ?_; rfl; rfl) | (refine WL.val ?_ ?_ (Runs.len rfl sl22) ?_; rfl; rfl) | (refine WL.val ?_ ?_ (Runs.len rfl sl23) ?_; rfl; rfl) | (refine WL.val ?_ ?_ (Runs.len rfl sl24) ?_; rfl; rfl) | (refine WL.val ?_ ?_ (Runs.len rfl sl26) ?_; rfl; rfl) | (refine WL.val ?_ ?_ (Runs.len rfl sl27) ?_; rfl; rfl) | (refine WL.val ?_ ?_ (Runs.len rfl sl48) ?_; rfl; rfl) | (refine WL.val ?_ ?_ (Runs.len rfl sl60) ?_; rfl; rfl) | (refine WL.pass ?_ ?_ ?_; rfl; rfl))
        refine WL.val rfl rfl (Runs.quo rfl rfl (r := ((k / 10 : Nat) : Int)) (by decide) (by rw [Int.tdiv_eq_ediv_of_nonneg (by omega), wrap64_id (by omega) (by omega)]; omega)) ?_
        repeat (first | (refine WL.val ?_ ?_ (Runs.move rfl) ?_; rfl; rfl) | (refine WL.val ?_ ?_ (Runs.assign rfl) ?_; rfl; rfl) | (refine WL.val ?_ ?_ (Runs.extract rfl rfl) ?_; rfl; rfl) | (refine WL.val ?_ ?_ (Runs.nilCheck rfl) ?_; rfl; rfl) | (refine WL.val ?_ ?_ (Runs.pickT rfl rfl) ?_; rfl; rfl) | (refine WL.val ?_ ?_ (Runs.pickF rfl rfl) ?_; rfl; rfl) | (refine WL.val ?_ ?_ (Runs.len rfl sl22) ?_; rfl; rfl) | (refine WL.val ?_ ?_ (Runs.len rfl sl23) ?_; rfl; rfl) | (refine WL.val ?_ ?_ (Runs.len rfl sl24) ?_; rfl; rfl) | (refine WL.val ?_ ?_ (Runs.len rfl sl26) ?_; rfl; rfl) | (refine WL.val ?_ ?_ (Runs.len rfl sl27) ?_; rfl; rfl) | (refine WL.val ?_ ?_ (Runs.len rfl sl48) ?_; rfl; rfl) | (refine WL.val ?_ ?_ (Runs.len rfl sl60) ?_; rfl; rfl) | (refine WL.pass ?_ ?_ ?_; rfl; rfl))
        refine WL.nil ?_
        repeat (first | refine AtExit.thenRet ?_ | refine AtExit.thenExit ?_ | refine AtExit.blockRet ?_ | refine AtExit.blockEnd ?_ | refine AtExit.blockExit ?_ | (refine AtExit.blockPast ?_ ?_; rfl))
        refine AtExit.inv fun a ha => ⟨(k / 10, [UInt8.ofNat (48 + k % 10)], _), ha.sub (by repeat (first | exact Sub.nil _ | refine Sub.cons rfl ?_)), ⟨by omega, ?_, ?_, ?_, ?_⟩, by omega⟩
        · refine Or.inr ⟨w'.heap.size, 1, _, rfl, by simp, heap_new _ _, ?_⟩
          intro i x hx
          match i, hx with
          | 0, hx => simp at hx; subst hx; simp; omega
        · exact hb.alloc hb.size _
        · rw [hd, hdl]; simp
        · have : k / 10 + 1 ≤ k := by omega
          simp at hlen ⊢; omega
      · have hpos : 0 < D.length := List.length_pos_iff.2 hne
        obtain ⟨cap', tail, hcap', hgr⟩ := run_append_new (P := Ybad.prog) (w'.alloc (.cells #[.int .u8 ((48 + k % 10 : Nat) : Int)] 5)) 23 23 5 Ybad.underlying23 in5 w'.heap.size 0 1 1
          [.int .u8 ((48 + k % 10 : Nat) : Int)] rfl (fun j v hj => by
            match j, hj with
            | 0, hj => simp at hj; subst hj; rw [cell_of (heap_new _ _)]; rfl)
          g 0 D.length cap (D.map fun x => .int .u8 (x.toNat : Int)) (by simp) (fun j v hj => by
            rw [cell_of (heap_old hg)]
            rw [List.getElem?_map] at hj
            cases hx : D[j]? with
            | none => rw [hx] at hj; cases hj
            | some x => rw [hx] at hj; cases hj; rw [Nat.zero_add]; exact hc j x hx) (by omega) (by omega) (by
              unfold Builtin.nextslicecap
              split
              · omega
              · rw [if_pos (by decide)]; omega)
        refine WL.val rfl rfl (Runs.append rfl hgr) ?_
        repeat (first | (refine WL.val ?_ ?_ (Runs.move rfl) ?_; rfl; rfl) | (refine WL.val ?_ ?_ (Runs.assign rfl) ?_; rfl; rfl) | (refine WL.val ?_ ?_ (Runs.extract rfl rfl) ?_; rfl; rfl) | (refine WL.val ?_ ?_ (Runs.nilCheck rfl) ?_; rfl; rfl) | (refine WL.val ?_ ?_ (Runs.pickT rfl rfl) ?_; rfl; rfl) | (refine WL.val ?_ ?_ (Runs.pickF rfl rfl) ?_; rfl; rfl) | (refine WL.val ?_ ?_ (Runs.len rfl sl22) ?_; rfl; rfl) | (refine WL.val ?_ ?_ (Runs.len rfl sl23) ?_; rfl; rfl) | (refine WL.val ?_ ?_ (Runs.len rfl sl24) ?_; rfl; rfl) | (refine WL.val ?_ ?_ (Runs.len rfl sl26) ?_; rfl; rfl) | (refine WL.val ?_ ?_ (Runs.len rfl sl27) ?_; rfl; rfl) | (refine WL.val ?_ ?_ (Runs.len rfl sl48) ?_; rfl; rfl) | (refine WL.val ?_ ?_ (Runs.len rfl sl60) ?_; rfl; rfl) | (refine WL.pass ?_ ?_ ?_; rfl; rfl))
        refine WL.nil ?_
        repeat (first | refine AtExit.thenRet ?_ | refine AtExit.thenExit ?_ | refine AtExit.blockRet ?_ | refine AtExit.blockEnd ?_ | refine AtExit.blockExit ?_ | (refine AtExit.blockPast ?_ ?_; rfl))
        refine AtExit.go ?_
        refine WC.region ?_
        repeat (first | (refine WL.val ?_ ?_ (Runs.move rfl) ?_; rfl; rfl) | (refine WL.val ?_ ?_ (Runs.assign rfl) ?_; rfl; rfl) | (refine WL.val ?_ ?_ (Runs.extract rfl rfl) ?_; rfl; rfl) | (refine WL.val ?_ ?_ (Runs.nilCheck rfl) ?_; rfl; rfl) | (refine WL.val ?_ ?_ (Runs.pickT rfl rfl) ?_; rfl; rfl) | (refine WL.val ?_ ?_ (Runs.pickF rfl rfl) ?_; rfl; rfl) | (refine WL.val ?_ ?_ (Runs.len rfl sl22) ?_; rfl; rfl) | (refine WL.val ?_ ?_ (Runs.len rfl sl23) ?_; rfl; rfl) | (refine WL.val ?_ ?_ (Runs.len rfl sl24) ?_; rfl; rfl) | (refine WL.val ?_ ?_ (Runs.len rfl sl26) ?_; rfl; rfl) | (refine WL.val ?_ ?_ (Runs.len rfl sl27) ?_; rfl; rfl) | (refine WL.val ?_ ?_ (Runs.len rfl sl48) ?_; rfl; rfl) | (refine WL.val ?_ ?_ (Runs.len rfl sl60) ?_; rfl; rfl) | (refine WL.pass ?_ ?_ ?_; rfl; rfl))
        refine WL.val rfl rfl (Runs.quo rfl rfl (r := ((k / 10 : Nat) : Int)) (by decide) (by rw [Int.tdiv_eq_ediv_of_nonneg (by omega), wrap64_id (by omega) (by omega)]; omega)) ?_
        repeat (first | (refine WL.val ?_ ?_ (Runs.move rfl) ?_; rfl; rfl) | (refine WL.val ?_ ?_ (Runs.assign rfl) ?_; rfl; rfl) | (refine WL.val ?_ ?_ (Runs.extract rfl rfl) ?_; rfl; rfl) | (refine WL.val ?_ ?_ (Runs.nilCheck rfl) ?_; rfl; rfl) | (refine WL.val ?_ ?_ (Runs.pickT rfl rfl) ?_; rfl; rfl) | (refine WL.val ?_ ?_ (Runs.pickF rfl rfl) ?_; rfl; rfl) | (refine WL.val ?_ ?_ (Runs.len rfl sl22) ?_; rfl; rfl) | (refine WL.val ?_ ?_ (Runs.len rfl sl23) ?_; rfl; rfl) | (refine WL.val ?_ ?_ (Runs.len rfl sl24) ?_; rfl; rfl) | (refine WL.val ?_ ?_ (Runs.len rfl sl26) ?_; rfl; rfl) | (refine WL.val ?_ ?_ (Runs.len rfl sl27) ?_; rfl; rfl) | (refine WL.val ?_ ?_ (Runs.len rfl sl48) ?_; rfl; rfl) | (refine WL.val ?_ ?_ (Runs.len rfl sl60) ?_; rfl; rfl) | (refine WL.pass ?_ ?_ ?_; rfl; rfl))
        refine WL.nil ?_
        repeat (first | refine AtExit.thenRet ?_ | refine AtExit.thenExit ?_ | refine AtExit.blockRet ?_ | refine AtExit.blockEnd ?_ | refine AtExit.blockExit ?_ | (refine AtExit.blockPast ?_ ?_; rfl))
        refine AtExit.inv fun a ha => ⟨(k / 10, UInt8.ofNat (48 + k % 10) :: D, _), ha.sub (by repeat (first | exact Sub.nil _ | refine Sub.cons rfl ?_)), ⟨by omega, ?_, ?_, ?_, ?_⟩, by omega⟩
        · refine Or.inr ⟨_, cap', _, ?_, by simp, heap_new _ _, ?_⟩
          · show Value.slice _ (1 + D.length) _ = Value.slice _ (D.length + 1) _
            rw [Nat.add_comm 1]; rfl
          · intro i x hx
            rw [Array.getElem?_append_left]
            · match i, hx with
              | 0, hx => simp at hx; subst hx; simp; omega
              | i + 1, hx =>
                simp at hx
                simp [hx]
            · have : i < D.length + 1 := by
                have := (List.getElem?_eq_some_iff.1 hx).1
                simpa using this
              simp; omega
        · exact (((hb.alloc hb.size _).drew).alloc (by simp; have := hb.size; omega) _)
        · rw [hd, hdl]; simp
        · have : k / 10 + 1 ≤ k := by omega
          simp at hlen ⊢; omega
    · have hk0 : k = 0 := by omega
      subst hk0
      refine WL.val rfl rfl (Runs.gtr rfl rfl (r := false) rfl) ?_
      refine WL.nil ?_
      repeat (first | refine AtExit.thenRet ?_ | refine AtExit.thenExit ?_ | refine AtExit.blockRet ?_ | refine AtExit.blockEnd ?_ | refine AtExit.blockExit ?_ | (refine AtExit.blockPast ?_ ?_; rfl))
      refine AtExit.go ?_
      refine WC.condF rfl ?_
      refine WC.exit ?_
      repeat (first | refine AtExit.thenRet ?_ | refine AtExit.thenExit ?_ | refine AtExit.blockRet ?_ | refine AtExit.blockEnd ?_ | refine AtExit.blockExit ?_ | (refine AtExit.blockPast ?_ ?_; rfl))
      refine AtExit.inv fun a ha => ⟨v, ha.sub (by repeat (first | exact Sub.nil _ | refine Sub.cons rfl ?_)), by rw [hd]; exact hv, hb⟩
  · rintro v w' ⟨hv, hb⟩
    refine WC.seq (WC.region ?_)
    repeat (first | (refine WL.val ?_ ?_ (Runs.move rfl) ?_; rfl; rfl) | (refine WL.val ?_ ?_ (Runs.assign rfl) ?_; rfl; rfl) | (refine WL.val ?_ ?_ (Runs.extract rfl rfl) ?_; rfl; rfl) | (refine WL.val ?_ ?_ (Runs.nilCheck rfl) ?_; rfl; rfl) | (refine WL.val ?_ ?_ (Runs.pickT rfl rfl) ?_; rfl; rfl) | (refine WL.val ?_ ?_ (Runs.pickF rfl rfl) ?_; rfl; rfl) | (refine WL.val ?_ ?_ (Runs.len rfl sl22) ?_; rfl; rfl) | (refine WL.val ?_ ?_ (Runs.len rfl sl23) ?_; rfl; rfl) | (refine WL.val ?_ ?_ (Runs.len rfl sl24) ?_; rfl; rfl) | (refine WL.val ?_ ?_ (Runs.len rfl sl26) ?_; rfl; rfl) | (refine WL.val ?_ ?_ (Runs.len rfl sl27) ?_; rfl; rfl) | (refine WL.val ?_ ?_ (Runs.len rfl sl48) ?_; rfl; rfl) | (refine WL.val ?_ ?_ (Runs.len rfl sl60) ?_; rfl; rfl) | (refine WL.pass ?_ ?_ ?_; rfl; rfl))
    rcases hv with ⟨_, h⟩ | ⟨g, cap, c, rfl, hne, hg, hc⟩
    · exfalso
      have := pre_step h0
      unfold pre at this
      rw [if_neg (by omega), h] at this
      simp at this
    · refine WL.val rfl rfl (Runs.convTo rfl (run_convert_bytes_back w' 23 9 5 ⟨g, 0, none⟩ cap (Lib.decDigits k0) Ybad.underlying23 Ybad.underlying5 Ybad.underlying9 (fun j hj => by rw [add_mk, cell_of hg, Nat.zero_add]; exact hc j _ (List.getElem?_eq_getElem hj)))) ?_
      repeat (first | (refine WL.val ?_ ?_ (Runs.move rfl) ?_; rfl; rfl) | (refine WL.val ?_ ?_ (Runs.assign rfl) ?_; rfl; rfl) | (refine WL.val ?_ ?_ (Runs.extract rfl rfl) ?_; rfl; rfl) | (refine WL.val ?_ ?_ (Runs.nilCheck rfl) ?_; rfl; rfl) | (refine WL.val ?_ ?_ (Runs.pickT rfl rfl) ?_; rfl; rfl) | (refine WL.val ?_ ?_ (Runs.pickF rfl rfl) ?_; rfl; rfl) | (refine WL.val ?_ ?_ (Runs.len rfl sl22) ?_; rfl; rfl) | (refine WL.val ?_ ?_ (Runs.len rfl sl23) ?_; rfl; rfl) | (refine WL.val ?_ ?_ (Runs.len rfl sl24) ?_; rfl; rfl) | (refine WL.val ?_ ?_ (Runs.len rfl sl26) ?_; rfl; rfl) | (refine WL.val ?_ ?_ (Runs.len rfl sl27) ?_; rfl; rfl) | (refine WL.val ?_ ?_ (Runs.len rfl sl48) ?_; rfl; rfl) | (refine WL.val ?_ ?_ (Runs.len rfl sl60) ?_; rfl; rfl) | (refine WL.pass ?_ ?_ ?_; rfl; rfl))
      refine WL.nil ?_
      repeat (first | refine AtExit.thenRet ?_ | refine AtExit.thenExit ?_ | refine AtExit.blockRet ?_ | refine AtExit.blockEnd ?_ | refine AtExit.blockExit ?_ | (refine AtExit.blockPast ?_ ?_; rfl))
      refine AtExit.go ?_
      refine WC.ret ?_
      repeat (first | refine AtExit.thenRet ?_ | refine AtExit.thenExit ?_ | refine AtExit.blockRet ?_ | refine AtExit.blockEnd ?_ | refine AtExit.blockExit ?_ | (refine AtExit.blockPast ?_ ?_; rfl))
      exact post1 rfl rfl ⟨rfl, hb⟩
end Go.Proofs.YbulkgfagDoor
