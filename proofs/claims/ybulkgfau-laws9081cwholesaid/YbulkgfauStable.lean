/- stable_func and SliceStable, walked. -/
import Derived.Test.YbulkgfauMerge
namespace Go.Proofs.Ybulkgfau
open Go Go.Fr Go.RowKit Go.Lib

theorem decle {a b : Nat} (h : a ≤ b) : decide ((a : Int) ≤ (b : Int)) = true := by rw [decide_eq_true_eq]; omega
theorem decgt {a b : Nat} (h : ¬ a ≤ b) : decide ((a : Int) ≤ (b : Int)) = false := by rw [decide_eq_false_iff_not]; omega

theorem flatten_snoc (ds : List (List Rc)) (C : List Rc) : (ds ++ [C]).flatten = ds.flatten ++ C := by simp
theorem flatten_len_snoc (ds : List (List Rc)) (C : List Rc) : (ds ++ [C]).flatten.length = ds.flatten.length + C.length := by rw [flatten_snoc, List.length_append]

section
variable {g q n cap : Nat}
set_option maxRecDepth 4000 in
theorem stable_any (hn : n ≤ 4096) (l : List Rc) (w : World) (hE : Env g q n cap w l) (hl : l.Pairwise lo) :
    Calls Yba.prog 18 #[.agg #[lv q, sv g n cap], .int .i64 (n : Int)] w fun e w' => e = .returned (.tuple #[]) ∧ (∃ C, Env g q n cap w' C ∧ C.Perm l ∧ C.Pairwise lx) ∧ w.grownBy w' (some g) := by
  have hlen := hE.len
  refine calls_of Yba.func18 rfl Yba.ntmps18 rfl ?_
  refine WC.seq (WC.region ?_)
  refine WL.val rfl rfl (Runs.box rfl) ?_
  refine WL.nil ?_
  repeat (first | refine AtExit.thenRet ?_ | refine AtExit.thenExit ?_ | refine AtExit.blockRet ?_ | refine AtExit.blockEnd ?_ | refine AtExit.blockExit ?_ | (refine AtExit.blockPast ?_ ?_; rfl))
  refine AtExit.go ?_
  have hst := St.start hE
  change St g q n cap w.heap.size w (w.alloc (.cells (Value.agg #[lv q, sv g n cap]).cells 57)) _ at hst
  generalize w.alloc _ = w1 at hst ⊢
  generalize w.heap.size = D at hst ⊢
  refine WC.seq (WC.region ?_)
  repeat (first | (refine WL.val ?_ ?_ (Runs.move rfl) ?_; rfl; rfl) | (refine WL.val ?_ ?_ (Runs.assign rfl) ?_; rfl; rfl) | (refine WL.val ?_ ?_ (Runs.extract rfl rfl) ?_; rfl; rfl) | (refine WL.val ?_ ?_ (Runs.nilCheck rfl) ?_; rfl; rfl) | (refine WL.val ?_ ?_ (Runs.pickT rfl rfl) ?_; rfl; rfl) | (refine WL.val ?_ ?_ (Runs.pickF rfl rfl) ?_; rfl; rfl) | (refine WL.val ?_ ?_ (Runs.len rfl sl22) ?_; rfl; rfl) | (refine WL.val ?_ ?_ (Runs.len rfl sl27) ?_; rfl; rfl) | (refine WL.val ?_ ?_ (Runs.len rfl sl37) ?_; rfl; rfl) | (refine WL.pass ?_ ?_ ?_; rfl; rfl))
  refine WL.nil ?_
  repeat (first | refine AtExit.thenRet ?_ | refine AtExit.thenExit ?_ | refine AtExit.blockRet ?_ | refine AtExit.blockEnd ?_ | refine AtExit.blockExit ?_ | (refine AtExit.blockPast ?_ ?_; rfl))
  refine AtExit.go ?_
  refine WC.seq (WC.region ?_)
  repeat (first | (refine WL.val ?_ ?_ (Runs.move rfl) ?_; rfl; rfl) | (refine WL.val ?_ ?_ (Runs.assign rfl) ?_; rfl; rfl) | (refine WL.val ?_ ?_ (Runs.extract rfl rfl) ?_; rfl; rfl) | (refine WL.val ?_ ?_ (Runs.nilCheck rfl) ?_; rfl; rfl) | (refine WL.val ?_ ?_ (Runs.pickT rfl rfl) ?_; rfl; rfl) | (refine WL.val ?_ ?_ (Runs.pickF rfl rfl) ?_; rfl; rfl) | (refine WL.val ?_ ?_ (Runs.len rfl sl22) ?_; rfl; rfl) | (refine WL.val ?_ ?_ (Runs.len rfl sl27) ?_; rfl; rfl) | (refine WL.val ?_ ?_ (Runs.len rfl sl37) ?_; rfl; rfl) | (refine WL.pass ?_ ?_ ?_; rfl; rfl))
  refine WL.nil ?_
  repeat (first | refine AtExit.thenRet ?_ | refine AtExit.thenExit ?_ | refine AtExit.blockRet ?_ | refine AtExit.blockEnd ?_ | refine AtExit.blockExit ?_ | (refine AtExit.blockPast ?_ ?_; rfl))
  refine AtExit.go ?_
  refine WC.cut (α := List (List Rc) × List Rc) (fun | (ds, _) => [(1, .int .i64 (n : Int)), (2, .pointer (some ⟨D, 0, none⟩)), (4, .int .i64 20), (5, .int .i64 (ds.flatten.length : Int))])
    (fun | (ds, T) => fun w' => T.length < 20 ∧ Full 20 ds ∧ ds.Pairwise Apart ∧ (∀ d ∈ ds, Apart d T) ∧ T.Pairwise lo ∧ (ds.flatten ++ T).Perm l ∧ St g q n cap D w w' (ds.flatten ++ T)) ?_ ?_
  · refine WC.block ?_
    refine WC.loop (α := List (List Rc) × List Rc) (fun | (ds, _) => [(1, .int .i64 (n : Int)), (2, .pointer (some ⟨D, 0, none⟩)), (4, .int .i64 20), (5, .int .i64 (ds.flatten.length : Int)), (6, .int .i64 ((ds.flatten.length + 20 : Nat) : Int))])
      (fun | (ds, T) => fun w' => Full 20 ds ∧ ds.Pairwise Apart ∧ (∀ d ∈ ds, Apart d T) ∧ T.Pairwise lo ∧ (ds.flatten ++ T).Perm l ∧ St g q n cap D w w' (ds.flatten ++ T)) (fun | (_, T) => T.length) ([], l) (by repeat (first | exact Sub.nil _ | refine Sub.cons rfl ?_))
      ⟨⟨by simp⟩, by simp, by simp, hl, by simp, by simpa using hst⟩ ?_
    clear hst w1
    rintro ⟨ds, T⟩ w' ⟨hf, hap, hdT, hT, hp, hs⟩
    have hl' := hs.env.len
    rw [List.length_append] at hl'
    refine WC.seq ?_
    refine WC.seq (WC.region ?_)
    repeat (first | (refine WL.val ?_ ?_ (Runs.move rfl) ?_; rfl; rfl) | (refine WL.val ?_ ?_ (Runs.assign rfl) ?_; rfl; rfl) | (refine WL.val ?_ ?_ (Runs.extract rfl rfl) ?_; rfl; rfl) | (refine WL.val ?_ ?_ (Runs.nilCheck rfl) ?_; rfl; rfl) | (refine WL.val ?_ ?_ (Runs.pickT rfl rfl) ?_; rfl; rfl) | (refine WL.val ?_ ?_ (Runs.pickF rfl rfl) ?_; rfl; rfl) | (refine WL.val ?_ ?_ (Runs.len rfl sl22) ?_; rfl; rfl) | (refine WL.val ?_ ?_ (Runs.len rfl sl27) ?_; rfl; rfl) | (refine WL.val ?_ ?_ (Runs.len rfl sl37) ?_; rfl; rfl) | (refine WL.pass ?_ ?_ ?_; rfl; rfl))
    by_cases h20 : ds.flatten.length + 20 ≤ n
    · refine WL.val rfl rfl (Runs.leq rfl rfl (decle h20)) ?_
      refine WL.nil ?_
      repeat (first | refine AtExit.thenRet ?_ | refine AtExit.thenExit ?_ | refine AtExit.blockRet ?_ | refine AtExit.blockEnd ?_ | refine AtExit.blockExit ?_ | (refine AtExit.blockPast ?_ ?_; rfl))
      refine AtExit.go ?_
      refine WC.condT rfl ?_
      refine WC.skip ?_
      repeat (first | refine AtExit.thenRet ?_ | refine AtExit.thenExit ?_ | refine AtExit.blockRet ?_ | refine AtExit.blockEnd ?_ | refine AtExit.blockExit ?_ | (refine AtExit.blockPast ?_ ?_; rfl))
      refine AtExit.go ?_
      refine WC.block ?_
      refine WC.seq (WC.region ?_)
      refine WL.val rfl rfl (Runs.loadAgg (cs := [lv q, sv g n cap]) rfl na57 sz57 hs.all) ?_
      repeat (first | (refine WL.val ?_ ?_ (Runs.move rfl) ?_; rfl; rfl) | (refine WL.val ?_ ?_ (Runs.assign rfl) ?_; rfl; rfl) | (refine WL.val ?_ ?_ (Runs.extract rfl rfl) ?_; rfl; rfl) | (refine WL.val ?_ ?_ (Runs.nilCheck rfl) ?_; rfl; rfl) | (refine WL.val ?_ ?_ (Runs.pickT rfl rfl) ?_; rfl; rfl) | (refine WL.val ?_ ?_ (Runs.pickF rfl rfl) ?_; rfl; rfl) | (refine WL.val ?_ ?_ (Runs.len rfl sl22) ?_; rfl; rfl) | (refine WL.val ?_ ?_ (Runs.len rfl sl27) ?_; rfl; rfl) | (refine WL.val ?_ ?_ (Runs.len rfl sl37) ?_; rfl; rfl) | (refine WL.pass ?_ ?_ ?_; rfl; rfl))
      obtain ⟨A, T', hAT, hAl⟩ : ∃ A T', T = A ++ T' ∧ A.length = 20 := ⟨T.take 20, T.drop 20, (List.take_append_drop _ _).symm, by rw [List.length_take]; omega⟩
      subst hAT
      rw [List.pairwise_append] at hT
      refine WL.call rfl rfl (RunsC.call rfl en29) (insertion_any hn ds.flatten A T' ds.flatten.length (ds.flatten.length + 20) w' (by rw [List.append_assoc]; exact hs.env) rfl (by omega) hT.1) ?_
      rintro e w2 ⟨rfl, ⟨C, hE2, hpC, hsC⟩, hg2⟩
      refine ⟨_, rfl, ?_⟩
      refine WL.nil ?_
      repeat (first | refine AtExit.thenRet ?_ | refine AtExit.thenExit ?_ | refine AtExit.blockRet ?_ | refine AtExit.blockEnd ?_ | refine AtExit.blockExit ?_ | (refine AtExit.blockPast ?_ ?_; rfl))
      refine AtExit.go ?_
      refine WC.seq (WC.region ?_)
      repeat (first | (refine WL.val ?_ ?_ (Runs.move rfl) ?_; rfl; rfl) | (refine WL.val ?_ ?_ (Runs.assign rfl) ?_; rfl; rfl) | (refine WL.val ?_ ?_ (Runs.extract rfl rfl) ?_; rfl; rfl) | (refine WL.val ?_ ?_ (Runs.nilCheck rfl) ?_; rfl; rfl) | (refine WL.val ?_ ?_ (Runs.pickT rfl rfl) ?_; rfl; rfl) | (refine WL.val ?_ ?_ (Runs.pickF rfl rfl) ?_; rfl; rfl) | (refine WL.val ?_ ?_ (Runs.len rfl sl22) ?_; rfl; rfl) | (refine WL.val ?_ ?_ (Runs.len rfl sl27) ?_; rfl; rfl) | (refine WL.val ?_ ?_ (Runs.len rfl sl37) ?_; rfl; rfl) | (refine WL.pass ?_ ?_ ?_; rfl; rfl))
      refine WL.nil ?_
      repeat (first | refine AtExit.thenRet ?_ | refine AtExit.thenExit ?_ | refine AtExit.blockRet ?_ | refine AtExit.blockEnd ?_ | refine AtExit.blockExit ?_ | (refine AtExit.blockPast ?_ ?_; rfl))
      refine AtExit.go ?_
      refine WC.region ?_
      repeat (first | (refine WL.val ?_ ?_ (Runs.move rfl) ?_; rfl; rfl) | (refine WL.val ?_ ?_ (Runs.assign rfl) ?_; rfl; rfl) | (refine WL.val ?_ ?_ (Runs.extract rfl rfl) ?_; rfl; rfl) | (refine WL.val ?_ ?_ (Runs.nilCheck rfl) ?_; rfl; rfl) | (refine WL.val ?_ ?_ (Runs.pickT rfl rfl) ?_; rfl; rfl) | (refine WL.val ?_ ?_ (Runs.pickF rfl rfl) ?_; rfl; rfl) | (refine WL.val ?_ ?_ (Runs.len rfl sl22) ?_; rfl; rfl) | (refine WL.val ?_ ?_ (Runs.len rfl sl27) ?_; rfl; rfl) | (refine WL.val ?_ ?_ (Runs.len rfl sl37) ?_; rfl; rfl) | (refine WL.pass ?_ ?_ ?_; rfl; rfl))
      refine WL.val rfl rfl (Runs.add rfl rfl (r := ((ds.flatten.length + 20 + 20 : Nat) : Int)) (wI (by omega) (by omega) (by omega))) ?_
      repeat (first | (refine WL.val ?_ ?_ (Runs.move rfl) ?_; rfl; rfl) | (refine WL.val ?_ ?_ (Runs.assign rfl) ?_; rfl; rfl) | (refine WL.val ?_ ?_ (Runs.extract rfl rfl) ?_; rfl; rfl) | (refine WL.val ?_ ?_ (Runs.nilCheck rfl) ?_; rfl; rfl) | (refine WL.val ?_ ?_ (Runs.pickT rfl rfl) ?_; rfl; rfl) | (refine WL.val ?_ ?_ (Runs.pickF rfl rfl) ?_; rfl; rfl) | (refine WL.val ?_ ?_ (Runs.len rfl sl22) ?_; rfl; rfl) | (refine WL.val ?_ ?_ (Runs.len rfl sl27) ?_; rfl; rfl) | (refine WL.val ?_ ?_ (Runs.len rfl sl37) ?_; rfl; rfl) | (refine WL.pass ?_ ?_ ?_; rfl; rfl))
      have hCl : C.length = 20 := by rw [hpC.length_eq]; exact hAl
      have hCT : Apart C T' := fun x hx y hy => hT.2.2 x (hpC.mem_iff.1 hx) y hy
      have hds : ∀ d ∈ ds, Apart d C := fun d hd x hx y hy => hdT d hd x hx y (List.mem_append_left _ (hpC.mem_iff.1 hy))
      refine WL.nil ?_
      repeat (first | refine AtExit.thenRet ?_ | refine AtExit.thenExit ?_ | refine AtExit.blockRet ?_ | refine AtExit.blockEnd ?_ | refine AtExit.blockExit ?_ | (refine AtExit.blockPast ?_ ?_; rfl))
      refine AtExit.inv fun av hv => ⟨(ds ++ [C], T'), hv.sub ?_, ⟨hf.snoc hCl hsC, ?_, fun d hd => ?_, hT.2.1, ?_, ?_⟩, ?_⟩
      · show Fr.Sub [(1, .int .i64 (n : Int)), (2, .pointer (some ⟨D, 0, none⟩)), (4, .int .i64 20), (5, .int .i64 ((ds ++ [C]).flatten.length : Int)), (6, .int .i64 (((ds ++ [C]).flatten.length + 20 : Nat) : Int))] _
        rw [flatten_len_snoc, hCl]
        exact (by repeat (first | exact Sub.nil _ | refine Sub.cons rfl ?_))
      · rw [List.pairwise_append]
        exact ⟨hap, List.pairwise_singleton _ _, fun d hd c hc => by rw [List.mem_singleton.1 hc]; exact hds d hd⟩
      · rcases List.mem_append.1 hd with hd | hd
        · exact fun x hx y hy => hdT d hd x hx y (List.mem_append_right _ hy)
        · rw [List.mem_singleton.1 hd]; exact hCT
      · rw [flatten_snoc, List.append_assoc]
        exact ((List.Perm.append_right T' hpC).append_left ds.flatten).trans hp
      · rw [flatten_snoc]; exact hs.call hE2 hg2
      · show T'.length < (A ++ T').length
        rw [List.length_append]; omega
    · refine WL.val rfl rfl (Runs.leq rfl rfl (decgt h20)) ?_
      refine WL.nil ?_
      repeat (first | refine AtExit.thenRet ?_ | refine AtExit.thenExit ?_ | refine AtExit.blockRet ?_ | refine AtExit.blockEnd ?_ | refine AtExit.blockExit ?_ | (refine AtExit.blockPast ?_ ?_; rfl))
      refine AtExit.go ?_
      refine WC.condF rfl ?_
      refine WC.exit ?_
      repeat (first | refine AtExit.thenRet ?_ | refine AtExit.thenExit ?_ | refine AtExit.blockRet ?_ | refine AtExit.blockEnd ?_ | refine AtExit.blockExit ?_ | (refine AtExit.blockPast ?_ ?_; rfl))
      refine AtExit.inv fun a ha => ⟨(ds, T), ha.sub (by repeat (first | exact Sub.nil _ | refine Sub.cons rfl ?_)), by omega, hf, hap, hdT, hT, hp, hs⟩
  clear hst w1
  rintro ⟨ds, T⟩ w' ⟨hT20, hf, hap, hdT, hT, hp, hs⟩
  have hl' := hs.env.len
  rw [List.length_append] at hl'
  refine WC.seq (WC.region ?_)
  refine WL.val rfl rfl (Runs.loadAgg (cs := [lv q, sv g n cap]) rfl na57 sz57 hs.all) ?_
  repeat (first | (refine WL.val ?_ ?_ (Runs.move rfl) ?_; rfl; rfl) | (refine WL.val ?_ ?_ (Runs.assign rfl) ?_; rfl; rfl) | (refine WL.val ?_ ?_ (Runs.extract rfl rfl) ?_; rfl; rfl) | (refine WL.val ?_ ?_ (Runs.nilCheck rfl) ?_; rfl; rfl) | (refine WL.val ?_ ?_ (Runs.pickT rfl rfl) ?_; rfl; rfl) | (refine WL.val ?_ ?_ (Runs.pickF rfl rfl) ?_; rfl; rfl) | (refine WL.val ?_ ?_ (Runs.len rfl sl22) ?_; rfl; rfl) | (refine WL.val ?_ ?_ (Runs.len rfl sl27) ?_; rfl; rfl) | (refine WL.val ?_ ?_ (Runs.len rfl sl37) ?_; rfl; rfl) | (refine WL.pass ?_ ?_ ?_; rfl; rfl))
  refine WL.call rfl rfl (RunsC.call rfl en29) (insertion_any hn ds.flatten T [] ds.flatten.length n w' (by rw [List.append_nil]; exact hs.env) rfl (by omega) hT) ?_
  rintro e w2 ⟨rfl, ⟨C, hE2, hpC, hsC⟩, hg2⟩
  refine ⟨_, rfl, ?_⟩
  refine WL.nil ?_
  repeat (first | refine AtExit.thenRet ?_ | refine AtExit.thenExit ?_ | refine AtExit.blockRet ?_ | refine AtExit.blockEnd ?_ | refine AtExit.blockExit ?_ | (refine AtExit.blockPast ?_ ?_; rfl))
  refine AtExit.go ?_
  rw [List.append_nil] at hE2
  have hs2 := hs.call hE2 hg2
  have hgood : Good 20 (ds ++ [C]) := hf.good (by rw [hpC.length_eq]; omega) hsC (by
    rw [List.pairwise_append]
    exact ⟨hap, List.pairwise_singleton _ _, fun d hd c hc => by rw [List.mem_singleton.1 hc]; exact (hdT d hd).perm (List.Perm.refl _) hpC⟩)
  have hperm : (ds ++ [C]).flatten.Perm l := by rw [flatten_snoc]; exact (hpC.append_left _).trans hp
  rw [← flatten_snoc] at hs2
  generalize ds ++ [C] = cs at hgood hperm hs2
  clear hs hE2 hg2 hp hpC hsC hT hdT hap hf hT20 hl'
  refine WC.block ?_
  refine WC.loop (α := Nat × List (List Rc)) (fun | (bs, _) => [(1, .int .i64 (n : Int)), (2, .pointer (some ⟨D, 0, none⟩)), (4, .int .i64 (bs : Int))])
    (fun | (bs, cs) => fun w' => 0 < bs ∧ bs ≤ 8192 ∧ Good bs cs ∧ cs.flatten.Perm l ∧ St g q n cap D w w' cs.flatten) (fun | (bs, _) => n - bs) (20, cs) (by repeat (first | exact Sub.nil _ | refine Sub.cons rfl ?_)) ⟨by decide, by decide, hgood, hperm, hs2⟩ ?_
  clear hgood hperm hs2 cs C ds T w2 w'
  rintro ⟨bs, cs⟩ w' ⟨hb0, hb1, hgood, hperm, hs⟩
  have hl' := hs.env.len
  refine WC.seq ?_
  refine WC.seq (WC.region ?_)
  repeat (first | (refine WL.val ?_ ?_ (Runs.move rfl) ?_; rfl; rfl) | (refine WL.val ?_ ?_ (Runs.assign rfl) ?_; rfl; rfl) | (refine WL.val ?_ ?_ (Runs.extract rfl rfl) ?_; rfl; rfl) | (refine WL.val ?_ ?_ (Runs.nilCheck rfl) ?_; rfl; rfl) | (refine WL.val ?_ ?_ (Runs.pickT rfl rfl) ?_; rfl; rfl) | (refine WL.val ?_ ?_ (Runs.pickF rfl rfl) ?_; rfl; rfl) | (refine WL.val ?_ ?_ (Runs.len rfl sl22) ?_; rfl; rfl) | (refine WL.val ?_ ?_ (Runs.len rfl sl27) ?_; rfl; rfl) | (refine WL.val ?_ ?_ (Runs.len rfl sl37) ?_; rfl; rfl) | (refine WL.pass ?_ ?_ ?_; rfl; rfl))
  by_cases hbn : bs < n
  · refine WL.val rfl rfl (Runs.lss rfl rfl (declt hbn)) ?_
    refine WL.nil ?_
    repeat (first | refine AtExit.thenRet ?_ | refine AtExit.thenExit ?_ | refine AtExit.blockRet ?_ | refine AtExit.blockEnd ?_ | refine AtExit.blockExit ?_ | (refine AtExit.blockPast ?_ ?_; rfl))
    refine AtExit.go ?_
    refine WC.condT rfl ?_
    refine WC.skip ?_
    repeat (first | refine AtExit.thenRet ?_ | refine AtExit.thenExit ?_ | refine AtExit.blockRet ?_ | refine AtExit.blockEnd ?_ | refine AtExit.blockExit ?_ | (refine AtExit.blockPast ?_ ?_; rfl))
    refine AtExit.go ?_
    refine WC.block ?_
    refine WC.seq (WC.region ?_)
    repeat (first | (refine WL.val ?_ ?_ (Runs.move rfl) ?_; rfl; rfl) | (refine WL.val ?_ ?_ (Runs.assign rfl) ?_; rfl; rfl) | (refine WL.val ?_ ?_ (Runs.extract rfl rfl) ?_; rfl; rfl) | (refine WL.val ?_ ?_ (Runs.nilCheck rfl) ?_; rfl; rfl) | (refine WL.val ?_ ?_ (Runs.pickT rfl rfl) ?_; rfl; rfl) | (refine WL.val ?_ ?_ (Runs.pickF rfl rfl) ?_; rfl; rfl) | (refine WL.val ?_ ?_ (Runs.len rfl sl22) ?_; rfl; rfl) | (refine WL.val ?_ ?_ (Runs.len rfl sl27) ?_; rfl; rfl) | (refine WL.val ?_ ?_ (Runs.len rfl sl37) ?_; rfl; rfl) | (refine WL.pass ?_ ?_ ?_; rfl; rfl))
    refine WL.val rfl rfl (Runs.mul rfl rfl (r := ((0 + 2 * bs : Nat) : Int)) (wI (by omega) (by omega) (by omega))) ?_
    repeat (first | (refine WL.val ?_ ?_ (Runs.move rfl) ?_; rfl; rfl) | (refine WL.val ?_ ?_ (Runs.assign rfl) ?_; rfl; rfl) | (refine WL.val ?_ ?_ (Runs.extract rfl rfl) ?_; rfl; rfl) | (refine WL.val ?_ ?_ (Runs.nilCheck rfl) ?_; rfl; rfl) | (refine WL.val ?_ ?_ (Runs.pickT rfl rfl) ?_; rfl; rfl) | (refine WL.val ?_ ?_ (Runs.pickF rfl rfl) ?_; rfl; rfl) | (refine WL.val ?_ ?_ (Runs.len rfl sl22) ?_; rfl; rfl) | (refine WL.val ?_ ?_ (Runs.len rfl sl27) ?_; rfl; rfl) | (refine WL.val ?_ ?_ (Runs.len rfl sl37) ?_; rfl; rfl) | (refine WL.pass ?_ ?_ ?_; rfl; rfl))
    refine WL.nil ?_
    repeat (first | refine AtExit.thenRet ?_ | refine AtExit.thenExit ?_ | refine AtExit.blockRet ?_ | refine AtExit.blockEnd ?_ | refine AtExit.blockExit ?_ | (refine AtExit.blockPast ?_ ?_; rfl))
    refine AtExit.go ?_
    refine WC.cut (α := List (List Rc) × List (List Rc)) (fun | (ds, _) => [(1, .int .i64 (n : Int)), (2, .pointer (some ⟨D, 0, none⟩)), (4, .int .i64 (bs : Int)), (5, .int .i64 (ds.flatten.length : Int))])
      (fun | (ds, cs) => fun w' => cs.flatten.length < 2 * bs ∧ Full (2 * bs) ds ∧ Good bs cs ∧ (ds ++ cs).Pairwise Apart ∧ (ds.flatten ++ cs.flatten).Perm l ∧ St g q n cap D w w' (ds.flatten ++ cs.flatten)) ?_ ?_
    · refine WC.block ?_
      refine WC.loop (α := List (List Rc) × List (List Rc)) (fun | (ds, _) => [(1, .int .i64 (n : Int)), (2, .pointer (some ⟨D, 0, none⟩)), (4, .int .i64 (bs : Int)), (5, .int .i64 (ds.flatten.length : Int)), (6, .int .i64 ((ds.flatten.length + 2 * bs : Nat) : Int))])
        (fun | (ds, cs) => fun w' => Full (2 * bs) ds ∧ Good bs cs ∧ (ds ++ cs).Pairwise Apart ∧ (ds.flatten ++ cs.flatten).Perm l ∧ St g q n cap D w w' (ds.flatten ++ cs.flatten)) (fun | (_, cs) => cs.length) ([], cs) (by repeat (first | exact Sub.nil _ | refine Sub.cons rfl ?_))
        ⟨⟨by simp⟩, hgood, by simpa using hgood.apart, by simpa using hperm, by simpa using hs⟩ ?_
      clear hgood hperm hs hl'
      rintro ⟨ds, cs⟩ w' ⟨hf, hgood, hap, hp, hs⟩
      have hl' := hs.env.len
      rw [List.length_append] at hl'
      refine WC.seq ?_
      refine WC.seq (WC.region ?_)
      repeat (first | (refine WL.val ?_ ?_ (Runs.move rfl) ?_; rfl; rfl) | (refine WL.val ?_ ?_ (Runs.assign rfl) ?_; rfl; rfl) | (refine WL.val ?_ ?_ (Runs.extract rfl rfl) ?_; rfl; rfl) | (refine WL.val ?_ ?_ (Runs.nilCheck rfl) ?_; rfl; rfl) | (refine WL.val ?_ ?_ (Runs.pickT rfl rfl) ?_; rfl; rfl) | (refine WL.val ?_ ?_ (Runs.pickF rfl rfl) ?_; rfl; rfl) | (refine WL.val ?_ ?_ (Runs.len rfl sl22) ?_; rfl; rfl) | (refine WL.val ?_ ?_ (Runs.len rfl sl27) ?_; rfl; rfl) | (refine WL.val ?_ ?_ (Runs.len rfl sl37) ?_; rfl; rfl) | (refine WL.pass ?_ ?_ ?_; rfl; rfl))
      by_cases h2 : ds.flatten.length + 2 * bs ≤ n
      · refine WL.val rfl rfl (Runs.leq rfl rfl (decle h2)) ?_
        refine WL.nil ?_
        repeat (first | refine AtExit.thenRet ?_ | refine AtExit.thenExit ?_ | refine AtExit.blockRet ?_ | refine AtExit.blockEnd ?_ | refine AtExit.blockExit ?_ | (refine AtExit.blockPast ?_ ?_; rfl))
        refine AtExit.go ?_
        refine WC.condT rfl ?_
        refine WC.skip ?_
        repeat (first | refine AtExit.thenRet ?_ | refine AtExit.thenExit ?_ | refine AtExit.blockRet ?_ | refine AtExit.blockEnd ?_ | refine AtExit.blockExit ?_ | (refine AtExit.blockPast ?_ ?_; rfl))
        refine AtExit.go ?_
        refine WC.block ?_
        obtain ⟨A, B, r, hcs, hAl, hBl⟩ := hgood.two hb0 (by omega)
        subst hcs
        have hAB : Apart A B := (List.pairwise_cons.1 hgood.apart).1 B (by simp)
        refine WC.seq (WC.region ?_)
        refine WL.val rfl rfl (Runs.loadAgg (cs := [lv q, sv g n cap]) rfl na57 sz57 hs.all) ?_
        repeat (first | (refine WL.val ?_ ?_ (Runs.move rfl) ?_; rfl; rfl) | (refine WL.val ?_ ?_ (Runs.assign rfl) ?_; rfl; rfl) | (refine WL.val ?_ ?_ (Runs.extract rfl rfl) ?_; rfl; rfl) | (refine WL.val ?_ ?_ (Runs.nilCheck rfl) ?_; rfl; rfl) | (refine WL.val ?_ ?_ (Runs.pickT rfl rfl) ?_; rfl; rfl) | (refine WL.val ?_ ?_ (Runs.pickF rfl rfl) ?_; rfl; rfl) | (refine WL.val ?_ ?_ (Runs.len rfl sl22) ?_; rfl; rfl) | (refine WL.val ?_ ?_ (Runs.len rfl sl27) ?_; rfl; rfl) | (refine WL.val ?_ ?_ (Runs.len rfl sl37) ?_; rfl; rfl) | (refine WL.pass ?_ ?_ ?_; rfl; rfl))
        refine WL.val rfl rfl (Runs.add rfl rfl (r := ((ds.flatten.length + bs : Nat) : Int)) (wI (by omega) (by omega) (by omega))) ?_
        repeat (first | (refine WL.val ?_ ?_ (Runs.move rfl) ?_; rfl; rfl) | (refine WL.val ?_ ?_ (Runs.assign rfl) ?_; rfl; rfl) | (refine WL.val ?_ ?_ (Runs.extract rfl rfl) ?_; rfl; rfl) | (refine WL.val ?_ ?_ (Runs.nilCheck rfl) ?_; rfl; rfl) | (refine WL.val ?_ ?_ (Runs.pickT rfl rfl) ?_; rfl; rfl) | (refine WL.val ?_ ?_ (Runs.pickF rfl rfl) ?_; rfl; rfl) | (refine WL.val ?_ ?_ (Runs.len rfl sl22) ?_; rfl; rfl) | (refine WL.val ?_ ?_ (Runs.len rfl sl27) ?_; rfl; rfl) | (refine WL.val ?_ ?_ (Runs.len rfl sl37) ?_; rfl; rfl) | (refine WL.pass ?_ ?_ ?_; rfl; rfl))
        have e1 : ds.flatten ++ (A :: B :: r).flatten = ds.flatten ++ A ++ B ++ r.flatten := by simp
        refine WL.call rfl rfl (RunsC.call rfl en30) (symMerge_any hn _ ds.flatten A B r.flatten ds.flatten.length (ds.flatten.length + bs) (ds.flatten.length + 2 * bs) w' rfl rfl (by omega) (by omega) (by omega) (by omega) (hgood.each A (by simp)).2 (hgood.each B (by simp)).2 hAB (by rw [← e1]; exact hs.env)) ?_
        rintro e w2 ⟨rfl, ⟨C, hE2, hpC, hsC⟩, hg2⟩
        refine ⟨_, rfl, ?_⟩
        refine WL.nil ?_
        repeat (first | refine AtExit.thenRet ?_ | refine AtExit.thenExit ?_ | refine AtExit.blockRet ?_ | refine AtExit.blockEnd ?_ | refine AtExit.blockExit ?_ | (refine AtExit.blockPast ?_ ?_; rfl))
        refine AtExit.go ?_
        refine WC.seq (WC.region ?_)
        repeat (first | (refine WL.val ?_ ?_ (Runs.move rfl) ?_; rfl; rfl) | (refine WL.val ?_ ?_ (Runs.assign rfl) ?_; rfl; rfl) | (refine WL.val ?_ ?_ (Runs.extract rfl rfl) ?_; rfl; rfl) | (refine WL.val ?_ ?_ (Runs.nilCheck rfl) ?_; rfl; rfl) | (refine WL.val ?_ ?_ (Runs.pickT rfl rfl) ?_; rfl; rfl) | (refine WL.val ?_ ?_ (Runs.pickF rfl rfl) ?_; rfl; rfl) | (refine WL.val ?_ ?_ (Runs.len rfl sl22) ?_; rfl; rfl) | (refine WL.val ?_ ?_ (Runs.len rfl sl27) ?_; rfl; rfl) | (refine WL.val ?_ ?_ (Runs.len rfl sl37) ?_; rfl; rfl) | (refine WL.pass ?_ ?_ ?_; rfl; rfl))
        refine WL.nil ?_
        repeat (first | refine AtExit.thenRet ?_ | refine AtExit.thenExit ?_ | refine AtExit.blockRet ?_ | refine AtExit.blockEnd ?_ | refine AtExit.blockExit ?_ | (refine AtExit.blockPast ?_ ?_; rfl))
        refine AtExit.go ?_
        refine WC.region ?_
        repeat (first | (refine WL.val ?_ ?_ (Runs.move rfl) ?_; rfl; rfl) | (refine WL.val ?_ ?_ (Runs.assign rfl) ?_; rfl; rfl) | (refine WL.val ?_ ?_ (Runs.extract rfl rfl) ?_; rfl; rfl) | (refine WL.val ?_ ?_ (Runs.nilCheck rfl) ?_; rfl; rfl) | (refine WL.val ?_ ?_ (Runs.pickT rfl rfl) ?_; rfl; rfl) | (refine WL.val ?_ ?_ (Runs.pickF rfl rfl) ?_; rfl; rfl) | (refine WL.val ?_ ?_ (Runs.len rfl sl22) ?_; rfl; rfl) | (refine WL.val ?_ ?_ (Runs.len rfl sl27) ?_; rfl; rfl) | (refine WL.val ?_ ?_ (Runs.len rfl sl37) ?_; rfl; rfl) | (refine WL.pass ?_ ?_ ?_; rfl; rfl))
        refine WL.val rfl rfl (Runs.mul rfl rfl (r := ((2 * bs : Nat) : Int)) (wI (by omega) (by omega) (by omega))) ?_
        refine WL.val rfl rfl (Runs.add rfl rfl (r := ((ds.flatten.length + 2 * bs + 2 * bs : Nat) : Int)) (wI (by omega) (by omega) (by omega))) ?_
        repeat (first | (refine WL.val ?_ ?_ (Runs.move rfl) ?_; rfl; rfl) | (refine WL.val ?_ ?_ (Runs.assign rfl) ?_; rfl; rfl) | (refine WL.val ?_ ?_ (Runs.extract rfl rfl) ?_; rfl; rfl) | (refine WL.val ?_ ?_ (Runs.nilCheck rfl) ?_; rfl; rfl) | (refine WL.val ?_ ?_ (Runs.pickT rfl rfl) ?_; rfl; rfl) | (refine WL.val ?_ ?_ (Runs.pickF rfl rfl) ?_; rfl; rfl) | (refine WL.val ?_ ?_ (Runs.len rfl sl22) ?_; rfl; rfl) | (refine WL.val ?_ ?_ (Runs.len rfl sl27) ?_; rfl; rfl) | (refine WL.val ?_ ?_ (Runs.len rfl sl37) ?_; rfl; rfl) | (refine WL.pass ?_ ?_ ?_; rfl; rfl))
        have hCl : C.length = 2 * bs := by rw [hpC.length_eq, List.length_append]; omega
        refine WL.nil ?_
        repeat (first | refine AtExit.thenRet ?_ | refine AtExit.thenExit ?_ | refine AtExit.blockRet ?_ | refine AtExit.blockEnd ?_ | refine AtExit.blockExit ?_ | (refine AtExit.blockPast ?_ ?_; rfl))
        refine AtExit.inv fun av hv => ⟨(ds ++ [C], r), hv.sub ?_, ⟨hf.snoc hCl hsC, hgood.tail2, ?_, ?_, ?_⟩, ?_⟩
        · show Fr.Sub [(1, .int .i64 (n : Int)), (2, .pointer (some ⟨D, 0, none⟩)), (4, .int .i64 (bs : Int)), (5, .int .i64 ((ds ++ [C]).flatten.length : Int)), (6, .int .i64 (((ds ++ [C]).flatten.length + 2 * bs : Nat) : Int))] _
          rw [flatten_len_snoc, hCl]
          exact (by repeat (first | exact Sub.nil _ | refine Sub.cons rfl ?_))
        · have := apart_merge hap hpC
          simpa using this
        · rw [flatten_snoc, List.append_assoc]
          refine List.Perm.trans ?_ hp
          rw [e1, List.append_assoc, List.append_assoc, ← List.append_assoc A]
          exact (List.Perm.append_right _ hpC).append_left _
        · rw [flatten_snoc]; exact hs.call hE2 hg2
        · show r.length < (A :: B :: r).length
          simp; omega
      · refine WL.val rfl rfl (Runs.leq rfl rfl (decgt h2)) ?_
        refine WL.nil ?_
        repeat (first | refine AtExit.thenRet ?_ | refine AtExit.thenExit ?_ | refine AtExit.blockRet ?_ | refine AtExit.blockEnd ?_ | refine AtExit.blockExit ?_ | (refine AtExit.blockPast ?_ ?_; rfl))
        refine AtExit.go ?_
        refine WC.condF rfl ?_
        refine WC.exit ?_
        repeat (first | refine AtExit.thenRet ?_ | refine AtExit.thenExit ?_ | refine AtExit.blockRet ?_ | refine AtExit.blockEnd ?_ | refine AtExit.blockExit ?_ | (refine AtExit.blockPast ?_ ?_; rfl))
        refine AtExit.inv fun a ha => ⟨(ds, cs), ha.sub (by repeat (first | exact Sub.nil _ | refine Sub.cons rfl ?_)), by omega, hf, hgood, hap, hp, hs⟩
    clear hgood hperm hs hl'
    rintro ⟨ds, cs⟩ w' ⟨hc2, hf, hgood, hap, hp, hs⟩
    have hl' := hs.env.len
    rw [List.length_append] at hl'
    refine WC.cut (α := List (List Rc)) (fun _ => [(1, .int .i64 (n : Int)), (2, .pointer (some ⟨D, 0, none⟩)), (4, .int .i64 (bs : Int))])
      (fun cs w' => Good (2 * bs) cs ∧ cs.flatten.Perm l ∧ St g q n cap D w w' cs.flatten) ?_ ?_
    · refine WC.seq (WC.region ?_)
      repeat (first | (refine WL.val ?_ ?_ (Runs.move rfl) ?_; rfl; rfl) | (refine WL.val ?_ ?_ (Runs.assign rfl) ?_; rfl; rfl) | (refine WL.val ?_ ?_ (Runs.extract rfl rfl) ?_; rfl; rfl) | (refine WL.val ?_ ?_ (Runs.nilCheck rfl) ?_; rfl; rfl) | (refine WL.val ?_ ?_ (Runs.pickT rfl rfl) ?_; rfl; rfl) | (refine WL.val ?_ ?_ (Runs.pickF rfl rfl) ?_; rfl; rfl) | (refine WL.val ?_ ?_ (Runs.len rfl sl22) ?_; rfl; rfl) | (refine WL.val ?_ ?_ (Runs.len rfl sl27) ?_; rfl; rfl) | (refine WL.val ?_ ?_ (Runs.len rfl sl37) ?_; rfl; rfl) | (refine WL.pass ?_ ?_ ?_; rfl; rfl))
      refine WL.val rfl rfl (Runs.add rfl rfl (r := ((ds.flatten.length + bs : Nat) : Int)) (wI (by omega) (by omega) (by omega))) ?_
      repeat (first | (refine WL.val ?_ ?_ (Runs.move rfl) ?_; rfl; rfl) | (refine WL.val ?_ ?_ (Runs.assign rfl) ?_; rfl; rfl) | (refine WL.val ?_ ?_ (Runs.extract rfl rfl) ?_; rfl; rfl) | (refine WL.val ?_ ?_ (Runs.nilCheck rfl) ?_; rfl; rfl) | (refine WL.val ?_ ?_ (Runs.pickT rfl rfl) ?_; rfl; rfl) | (refine WL.val ?_ ?_ (Runs.pickF rfl rfl) ?_; rfl; rfl) | (refine WL.val ?_ ?_ (Runs.len rfl sl22) ?_; rfl; rfl) | (refine WL.val ?_ ?_ (Runs.len rfl sl27) ?_; rfl; rfl) | (refine WL.val ?_ ?_ (Runs.len rfl sl37) ?_; rfl; rfl) | (refine WL.pass ?_ ?_ ?_; rfl; rfl))
      refine WL.nil ?_
      repeat (first | refine AtExit.thenRet ?_ | refine AtExit.thenExit ?_ | refine AtExit.blockRet ?_ | refine AtExit.blockEnd ?_ | refine AtExit.blockExit ?_ | (refine AtExit.blockPast ?_ ?_; rfl))
      refine AtExit.go ?_
      refine WC.seq (WC.region ?_)
      repeat (first | (refine WL.val ?_ ?_ (Runs.move rfl) ?_; rfl; rfl) | (refine WL.val ?_ ?_ (Runs.assign rfl) ?_; rfl; rfl) | (refine WL.val ?_ ?_ (Runs.extract rfl rfl) ?_; rfl; rfl) | (refine WL.val ?_ ?_ (Runs.nilCheck rfl) ?_; rfl; rfl) | (refine WL.val ?_ ?_ (Runs.pickT rfl rfl) ?_; rfl; rfl) | (refine WL.val ?_ ?_ (Runs.pickF rfl rfl) ?_; rfl; rfl) | (refine WL.val ?_ ?_ (Runs.len rfl sl22) ?_; rfl; rfl) | (refine WL.val ?_ ?_ (Runs.len rfl sl27) ?_; rfl; rfl) | (refine WL.val ?_ ?_ (Runs.len rfl sl37) ?_; rfl; rfl) | (refine WL.pass ?_ ?_ ?_; rfl; rfl))
      rcases hgood.last hc2 with ⟨A, hA, hAl, hAs⟩ | ⟨A, B, hcs, hAl, hBl⟩
      · rw [hA] at hp hs hl'
        refine WL.val rfl rfl (Runs.lss rfl rfl (decge (show ¬ ds.flatten.length + bs < n by omega))) ?_
        refine WL.nil ?_
        repeat (first | refine AtExit.thenRet ?_ | refine AtExit.thenExit ?_ | refine AtExit.blockRet ?_ | refine AtExit.blockEnd ?_ | refine AtExit.blockExit ?_ | (refine AtExit.blockPast ?_ ?_; rfl))
        refine AtExit.go ?_
        refine WC.condF rfl ?_
        refine WC.skip ?_
        repeat (first | refine AtExit.thenRet ?_ | refine AtExit.thenExit ?_ | refine AtExit.blockRet ?_ | refine AtExit.blockEnd ?_ | refine AtExit.blockExit ?_ | (refine AtExit.blockPast ?_ ?_; rfl))
        refine AtExit.inv fun av hv => ⟨ds ++ [A], hv.sub (by repeat (first | exact Sub.nil _ | refine Sub.cons rfl ?_)), hf.good (by omega) hAs ?_, by rw [flatten_snoc]; exact hp, by rw [flatten_snoc]; exact hs⟩
        rw [List.pairwise_append] at hap ⊢
        refine ⟨hap.1, List.pairwise_singleton _ _, fun d hd c hc x hx y hy => ?_⟩
        rw [List.mem_singleton.1 hc, ← hA] at hy
        obtain ⟨c', hc', hy'⟩ := List.mem_flatten.1 hy
        exact hap.2.2 d hd c' hc' x hx y hy'
      · subst hcs
        have e1 : ds.flatten ++ [A, B].flatten = ds.flatten ++ A ++ B ++ [] := by simp
        have hlB : [A, B].flatten.length = A.length + B.length := by simp
        refine WL.val rfl rfl (Runs.lss rfl rfl (declt (show ds.flatten.length + bs < n by omega))) ?_
        refine WL.nil ?_
        repeat (first | refine AtExit.thenRet ?_ | refine AtExit.thenExit ?_ | refine AtExit.blockRet ?_ | refine AtExit.blockEnd ?_ | refine AtExit.blockExit ?_ | (refine AtExit.blockPast ?_ ?_; rfl))
        refine AtExit.go ?_
        refine WC.condT rfl ?_
        refine WC.region ?_
        refine WL.val rfl rfl (Runs.loadAgg (cs := [lv q, sv g n cap]) rfl na57 sz57 hs.all) ?_
        repeat (first | (refine WL.val ?_ ?_ (Runs.move rfl) ?_; rfl; rfl) | (refine WL.val ?_ ?_ (Runs.assign rfl) ?_; rfl; rfl) | (refine WL.val ?_ ?_ (Runs.extract rfl rfl) ?_; rfl; rfl) | (refine WL.val ?_ ?_ (Runs.nilCheck rfl) ?_; rfl; rfl) | (refine WL.val ?_ ?_ (Runs.pickT rfl rfl) ?_; rfl; rfl) | (refine WL.val ?_ ?_ (Runs.pickF rfl rfl) ?_; rfl; rfl) | (refine WL.val ?_ ?_ (Runs.len rfl sl22) ?_; rfl; rfl) | (refine WL.val ?_ ?_ (Runs.len rfl sl27) ?_; rfl; rfl) | (refine WL.val ?_ ?_ (Runs.len rfl sl37) ?_; rfl; rfl) | (refine WL.pass ?_ ?_ ?_; rfl; rfl))
        have hAB : Apart A B := (List.pairwise_cons.1 hgood.apart).1 B (by simp)
        refine WL.call rfl rfl (RunsC.call rfl en30) (symMerge_any hn _ ds.flatten A B [] ds.flatten.length (ds.flatten.length + bs) n w' rfl rfl (by omega) (by omega) (by omega) (by omega) (hgood.each A (by simp)).2 (hgood.each B (by simp)).2 hAB (by rw [← e1]; exact hs.env)) ?_
        rintro e w2 ⟨rfl, ⟨C, hE2, hpC, hsC⟩, hg2⟩
        refine ⟨_, rfl, ?_⟩
        rw [List.append_nil] at hE2
        refine WL.nil ?_
        repeat (first | refine AtExit.thenRet ?_ | refine AtExit.thenExit ?_ | refine AtExit.blockRet ?_ | refine AtExit.blockEnd ?_ | refine AtExit.blockExit ?_ | (refine AtExit.blockPast ?_ ?_; rfl))
        refine AtExit.inv fun av hv => ⟨ds ++ [C], hv.sub (by repeat (first | exact Sub.nil _ | refine Sub.cons rfl ?_)), hf.good (by rw [hpC.length_eq, List.length_append]; omega) hsC ?_, ?_, by rw [flatten_snoc]; exact hs.call hE2 hg2⟩
        · exact apart_merge hap hpC
        · rw [flatten_snoc]
          refine List.Perm.trans ?_ hp
          rw [e1, List.append_nil, List.append_assoc]
          exact hpC.append_left _
    rintro cs2 w2 ⟨hg2, hp2, hs2⟩
    refine WC.region ?_
    repeat (first | (refine WL.val ?_ ?_ (Runs.move rfl) ?_; rfl; rfl) | (refine WL.val ?_ ?_ (Runs.assign rfl) ?_; rfl; rfl) | (refine WL.val ?_ ?_ (Runs.extract rfl rfl) ?_; rfl; rfl) | (refine WL.val ?_ ?_ (Runs.nilCheck rfl) ?_; rfl; rfl) | (refine WL.val ?_ ?_ (Runs.pickT rfl rfl) ?_; rfl; rfl) | (refine WL.val ?_ ?_ (Runs.pickF rfl rfl) ?_; rfl; rfl) | (refine WL.val ?_ ?_ (Runs.len rfl sl22) ?_; rfl; rfl) | (refine WL.val ?_ ?_ (Runs.len rfl sl27) ?_; rfl; rfl) | (refine WL.val ?_ ?_ (Runs.len rfl sl37) ?_; rfl; rfl) | (refine WL.pass ?_ ?_ ?_; rfl; rfl))
    refine WL.val rfl rfl (Runs.mul rfl rfl (r := ((2 * bs : Nat) : Int)) (wI (by omega) (by omega) (by omega))) ?_
    repeat (first | (refine WL.val ?_ ?_ (Runs.move rfl) ?_; rfl; rfl) | (refine WL.val ?_ ?_ (Runs.assign rfl) ?_; rfl; rfl) | (refine WL.val ?_ ?_ (Runs.extract rfl rfl) ?_; rfl; rfl) | (refine WL.val ?_ ?_ (Runs.nilCheck rfl) ?_; rfl; rfl) | (refine WL.val ?_ ?_ (Runs.pickT rfl rfl) ?_; rfl; rfl) | (refine WL.val ?_ ?_ (Runs.pickF rfl rfl) ?_; rfl; rfl) | (refine WL.val ?_ ?_ (Runs.len rfl sl22) ?_; rfl; rfl) | (refine WL.val ?_ ?_ (Runs.len rfl sl27) ?_; rfl; rfl) | (refine WL.val ?_ ?_ (Runs.len rfl sl37) ?_; rfl; rfl) | (refine WL.pass ?_ ?_ ?_; rfl; rfl))
    refine WL.nil ?_
    repeat (first | refine AtExit.thenRet ?_ | refine AtExit.thenExit ?_ | refine AtExit.blockRet ?_ | refine AtExit.blockEnd ?_ | refine AtExit.blockExit ?_ | (refine AtExit.blockPast ?_ ?_; rfl))
    refine AtExit.inv fun a ha => ⟨(2 * bs, cs2), ha.sub (by repeat (first | exact Sub.nil _ | refine Sub.cons rfl ?_)), ⟨by omega, by omega, hg2, hp2, hs2⟩, by show n - 2 * bs < n - bs; omega⟩
  · refine WL.val rfl rfl (Runs.lss rfl rfl (decge hbn)) ?_
    refine WL.nil ?_
    repeat (first | refine AtExit.thenRet ?_ | refine AtExit.thenExit ?_ | refine AtExit.blockRet ?_ | refine AtExit.blockEnd ?_ | refine AtExit.blockExit ?_ | (refine AtExit.blockPast ?_ ?_; rfl))
    refine AtExit.go ?_
    refine WC.condF rfl ?_
    refine WC.exit ?_
    repeat (first | refine AtExit.thenRet ?_ | refine AtExit.thenExit ?_ | refine AtExit.blockRet ?_ | refine AtExit.blockEnd ?_ | refine AtExit.blockExit ?_ | (refine AtExit.blockPast ?_ ?_; rfl))
    exact post0e rfl ⟨rfl, ⟨_, hs.env, hperm, hgood.one (by omega)⟩, hs.grown⟩
end
end Go.Proofs.Ybulkgfau
