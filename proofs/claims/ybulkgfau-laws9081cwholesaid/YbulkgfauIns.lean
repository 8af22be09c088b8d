/- insertionSort_func, walked. -/
import Derived.Test.YbulkgfauSort
namespace Go.Proofs.Ybulkgfau
open Go Go.Fr Go.RowKit Go.Lib

theorem lt_ahead {A : List Rc} (h : A.Pairwise lo) {c : Nat} {x : Rc} (hx : A[c]? = some x) : ∀ y ∈ A.take c, y.ix < x.ix := by
  have := (List.take_append_drop c A).symm
  rw [this, List.pairwise_append, drop_one hx] at h
  exact fun y hy => h.2.2 y hy x (by simp)

section
variable {g q n cap : Nat}
theorem insertion_any (hn : n ≤ 4096) (P A S : List Rc) (a b : Nat) (w : World) (hE : Env g q n cap w (P ++ A ++ S)) (ha : a = P.length) (hb : b = a + A.length) (hA : A.Pairwise lo) :
    Calls Yba.prog 29 #[.agg #[lv q, sv g n cap], .int .i64 (a : Int), .int .i64 (b : Int)] w fun e w' => e = .returned (.tuple #[]) ∧ (∃ C, Env g q n cap w' (P ++ C ++ S) ∧ C.Perm A ∧ C.Pairwise lx) ∧ w.grownBy w' (some g) := by
  have hlen := hE.len
  simp only [List.length_append] at hlen
  refine calls_of Yba.func29 rfl Yba.ntmps29 rfl ?_
  refine WC.seq (WC.region ?_)
  refine WL.val rfl rfl (Runs.box rfl) ?_
  refine WL.nil ?_
  repeat (first | refine AtExit.thenRet ?_ | refine AtExit.thenExit ?_ | refine AtExit.blockRet ?_ | refine AtExit.blockEnd ?_ | refine AtExit.blockExit ?_ | (refine AtExit.blockPast ?_ ?_; rfl))
  refine AtExit.go ?_
  have hst := St.start hE
  change St g q n cap w.heap.size w (w.alloc (.cells (Value.agg #[lv q, sv g n cap]).cells 57)) _ at hst
  generalize w.alloc _ = w1 at hst ⊢
  generalize w.heap.size = D at hst ⊢
  refine WC.seq (WC.region ?_)
  repeat (first | (refine WL.val ?_ ?_ (Runs.move rfl) ?_; rfl; rfl) | (refine WL.val ?_ ?_ (Runs.assign rfl) ?_; rfl; rfl) | (refine WL.val ?_ ?_ (Runs.extract rfl rfl) ?_; rfl; rfl) | (refine WL.val ?_ ?_ (Runs.nilCheck rfl) ?_; rfl; rfl) | (refine WL.val ?_ ?_ (Runs.pickT rfl rfl) ?_; rfl; rfl) | (refine WL.val ?_ ?_ (Runs.pickF rfl rfl) ?_; rfl; rfl) | (refine WL.val ?_ ?_ (Runs.len rfl sl22) ?_; rfl; rfl) | (refine WL.val ?_ ?_ (Runs.len rfl sl27) ?_; rfl; rfl) | (refine WL.val ?_ ?_ (Runs.len rfl sl37) ?_; rfl; rfl) | (refine WL.pass ?_ ?_ ?_; rfl; rfl))
  refine WL.val rfl rfl (Runs.add rfl rfl (r := ((a + 1 : Nat) : Int)) (wI (by omega) (by omega) (by omega))) ?_
  repeat (first | (refine WL.val ?_ ?_ (Runs.move rfl) ?_; rfl; rfl) | (refine WL.val ?_ ?_ (Runs.assign rfl) ?_; rfl; rfl) | (refine WL.val ?_ ?_ (Runs.extract rfl rfl) ?_; rfl; rfl) | (refine WL.val ?_ ?_ (Runs.nilCheck rfl) ?_; rfl; rfl) | (refine WL.val ?_ ?_ (Runs.pickT rfl rfl) ?_; rfl; rfl) | (refine WL.val ?_ ?_ (Runs.pickF rfl rfl) ?_; rfl; rfl) | (refine WL.val ?_ ?_ (Runs.len rfl sl22) ?_; rfl; rfl) | (refine WL.val ?_ ?_ (Runs.len rfl sl27) ?_; rfl; rfl) | (refine WL.val ?_ ?_ (Runs.len rfl sl37) ?_; rfl; rfl) | (refine WL.pass ?_ ?_ ?_; rfl; rfl))
  refine WL.nil ?_
  repeat (first | refine AtExit.thenRet ?_ | refine AtExit.thenExit ?_ | refine AtExit.blockRet ?_ | refine AtExit.blockEnd ?_ | refine AtExit.blockExit ?_ | (refine AtExit.blockPast ?_ ?_; rfl))
  refine AtExit.go ?_
  refine WC.block ?_
  refine WC.loop (α := Nat × List Rc) (fun | (c, _) => [(1, .int .i64 (a : Int)), (2, .int .i64 (b : Int)), (3, .pointer (some ⟨D, 0, none⟩)), (6, .int .i64 ((a + c : Nat) : Int))])
    (fun | (c, C) => fun w' => 1 ≤ c ∧ C.Perm (A.take c) ∧ C.Pairwise lx ∧ St g q n cap D w w' (P ++ C ++ A.drop c ++ S)) (fun | (c, _) => A.length - c) (1, A.take 1) (by repeat (first | exact Sub.nil _ | refine Sub.cons rfl ?_))
    ⟨Nat.le_refl _, List.Perm.refl _, ?_, by rw [List.append_assoc P, List.take_append_drop]; exact hst⟩ ?_
  · match A with
    | [] => simp
    | x :: A => simp
  clear hst w1
  rintro ⟨c, C⟩ w' ⟨hc1, hp, hsrt, hs⟩
  refine WC.seq ?_
  refine WC.seq (WC.region ?_)
  repeat (first | (refine WL.val ?_ ?_ (Runs.move rfl) ?_; rfl; rfl) | (refine WL.val ?_ ?_ (Runs.assign rfl) ?_; rfl; rfl) | (refine WL.val ?_ ?_ (Runs.extract rfl rfl) ?_; rfl; rfl) | (refine WL.val ?_ ?_ (Runs.nilCheck rfl) ?_; rfl; rfl) | (refine WL.val ?_ ?_ (Runs.pickT rfl rfl) ?_; rfl; rfl) | (refine WL.val ?_ ?_ (Runs.pickF rfl rfl) ?_; rfl; rfl) | (refine WL.val ?_ ?_ (Runs.len rfl sl22) ?_; rfl; rfl) | (refine WL.val ?_ ?_ (Runs.len rfl sl27) ?_; rfl; rfl) | (refine WL.val ?_ ?_ (Runs.len rfl sl37) ?_; rfl; rfl) | (refine WL.pass ?_ ?_ ?_; rfl; rfl))
  by_cases hcl : c < A.length
  · refine WL.val rfl rfl (Runs.lss rfl rfl (declt (show a + c < b by omega))) ?_
    refine WL.nil ?_
    repeat (first | refine AtExit.thenRet ?_ | refine AtExit.thenExit ?_ | refine AtExit.blockRet ?_ | refine AtExit.blockEnd ?_ | refine AtExit.blockExit ?_ | (refine AtExit.blockPast ?_ ?_; rfl))
    refine AtExit.go ?_
    refine WC.condT rfl ?_
    refine WC.skip ?_
    repeat (first | refine AtExit.thenRet ?_ | refine AtExit.thenExit ?_ | refine AtExit.blockRet ?_ | refine AtExit.blockEnd ?_ | refine AtExit.blockExit ?_ | (refine AtExit.blockPast ?_ ?_; rfl))
    refine AtExit.go ?_
    obtain ⟨x, hx⟩ := get_some hcl
    have hCl : C.length = c := by rw [hp.length_eq, List.length_take]; omega
    have hix : ∀ y ∈ C, y.ix < x.ix := fun y hy => lt_ahead hA hx y (hp.mem_iff.1 hy)
    rw [drop_one hx] at hs
    refine WC.cut (α := List Rc) (fun _ => [(1, .int .i64 (a : Int)), (2, .int .i64 (b : Int)), (3, .pointer (some ⟨D, 0, none⟩)), (6, .int .i64 ((a + c : Nat) : Int))])
      (fun C' w' => C'.Perm (A.take (c + 1)) ∧ C'.Pairwise lx ∧ St g q n cap D w w' (P ++ C' ++ A.drop (c + 1) ++ S)) ?_ ?_
    · refine WC.block ?_
      refine WC.seq (WC.region ?_)
      repeat (first | (refine WL.val ?_ ?_ (Runs.move rfl) ?_; rfl; rfl) | (refine WL.val ?_ ?_ (Runs.assign rfl) ?_; rfl; rfl) | (refine WL.val ?_ ?_ (Runs.extract rfl rfl) ?_; rfl; rfl) | (refine WL.val ?_ ?_ (Runs.nilCheck rfl) ?_; rfl; rfl) | (refine WL.val ?_ ?_ (Runs.pickT rfl rfl) ?_; rfl; rfl) | (refine WL.val ?_ ?_ (Runs.pickF rfl rfl) ?_; rfl; rfl) | (refine WL.val ?_ ?_ (Runs.len rfl sl22) ?_; rfl; rfl) | (refine WL.val ?_ ?_ (Runs.len rfl sl27) ?_; rfl; rfl) | (refine WL.val ?_ ?_ (Runs.len rfl sl37) ?_; rfl; rfl) | (refine WL.pass ?_ ?_ ?_; rfl; rfl))
      refine WL.nil ?_
      repeat (first | refine AtExit.thenRet ?_ | refine AtExit.thenExit ?_ | refine AtExit.blockRet ?_ | refine AtExit.blockEnd ?_ | refine AtExit.blockExit ?_ | (refine AtExit.blockPast ?_ ?_; rfl))
      refine AtExit.go ?_
      refine WC.block ?_
      refine WC.loop (α := List Rc × List Rc) (fun | (C1, _) => [(1, .int .i64 (a : Int)), (2, .int .i64 (b : Int)), (3, .pointer (some ⟨D, 0, none⟩)), (6, .int .i64 ((a + c : Nat) : Int)), (7, .int .i64 ((a + C1.length : Nat) : Int))])
        (fun | (C1, C2) => fun w' => C1 ++ C2 = C ∧ (∀ y ∈ C2, lx x y) ∧ St g q n cap D w w' (P ++ C1 ++ x :: C2 ++ A.drop (c + 1) ++ S)) (fun | (C1, _) => C1.length) (C, [])
        (by
          show Fr.Sub [(1, .int .i64 (a : Int)), (2, .int .i64 (b : Int)), (3, .pointer (some ⟨D, 0, none⟩)), (6, .int .i64 ((a + c : Nat) : Int)), (7, .int .i64 ((a + C.length : Nat) : Int))] _
          rw [hCl]
          exact (by repeat (first | exact Sub.nil _ | refine Sub.cons rfl ?_))) ⟨by simp, by simp, by simpa using hs⟩ ?_
      clear hs
      rintro ⟨C1, C2⟩ w2 ⟨hCC, hlt, hs⟩
      have hl1 : C1.length ≤ c := by rw [← hCl, ← hCC, List.length_append]; omega
      have fin : (∀ y ∈ C1, lx y x) → (C1 ++ x :: C2).Perm (A.take (c + 1)) ∧ (C1 ++ x :: C2).Pairwise lx ∧ St g q n cap D w w2 (P ++ (C1 ++ x :: C2) ++ A.drop (c + 1) ++ S) := fun h1 => by
        refine ⟨?_, ins_end (by rw [hCC]; exact hsrt) h1 hlt, by rw [← List.append_assoc]; exact hs⟩
        rw [take_one hx]
        refine (List.perm_middle).trans ?_
        rw [hCC]
        exact ((List.Perm.cons x hp).trans (List.perm_append_singleton x _).symm)
      refine WC.seq ?_
      refine WC.seq (WC.region ?_)
      repeat (first | (refine WL.val ?_ ?_ (Runs.move rfl) ?_; rfl; rfl) | (refine WL.val ?_ ?_ (Runs.assign rfl) ?_; rfl; rfl) | (refine WL.val ?_ ?_ (Runs.extract rfl rfl) ?_; rfl; rfl) | (refine WL.val ?_ ?_ (Runs.nilCheck rfl) ?_; rfl; rfl) | (refine WL.val ?_ ?_ (Runs.pickT rfl rfl) ?_; rfl; rfl) | (refine WL.val ?_ ?_ (Runs.pickF rfl rfl) ?_; rfl; rfl) | (refine WL.val ?_ ?_ (Runs.len rfl sl22) ?_; rfl; rfl) | (refine WL.val ?_ ?_ (Runs.len rfl sl27) ?_; rfl; rfl) | (refine WL.val ?_ ?_ (Runs.len rfl sl37) ?_; rfl; rfl) | (refine WL.pass ?_ ?_ ?_; rfl; rfl))
      rcases List.eq_nil_or_concat C1 with hnil | ⟨C3, z, hcon⟩
      · subst hnil
        refine WL.val rfl rfl (Runs.gtr rfl rfl (decge (show ¬ a < a + ([] : List Rc).length by simp))) ?_
        repeat (first | (refine WL.val ?_ ?_ (Runs.move rfl) ?_; rfl; rfl) | (refine WL.val ?_ ?_ (Runs.assign rfl) ?_; rfl; rfl) | (refine WL.val ?_ ?_ (Runs.extract rfl rfl) ?_; rfl; rfl) | (refine WL.val ?_ ?_ (Runs.nilCheck rfl) ?_; rfl; rfl) | (refine WL.val ?_ ?_ (Runs.pickT rfl rfl) ?_; rfl; rfl) | (refine WL.val ?_ ?_ (Runs.pickF rfl rfl) ?_; rfl; rfl) | (refine WL.val ?_ ?_ (Runs.len rfl sl22) ?_; rfl; rfl) | (refine WL.val ?_ ?_ (Runs.len rfl sl27) ?_; rfl; rfl) | (refine WL.val ?_ ?_ (Runs.len rfl sl37) ?_; rfl; rfl) | (refine WL.pass ?_ ?_ ?_; rfl; rfl))
        refine WL.nil ?_
        repeat (first | refine AtExit.thenRet ?_ | refine AtExit.thenExit ?_ | refine AtExit.blockRet ?_ | refine AtExit.blockEnd ?_ | refine AtExit.blockExit ?_ | (refine AtExit.blockPast ?_ ?_; rfl))
        refine AtExit.go ?_
        refine WC.condF rfl ?_
        refine WC.exit ?_
        repeat (first | refine AtExit.thenRet ?_ | refine AtExit.thenExit ?_ | refine AtExit.blockRet ?_ | refine AtExit.blockEnd ?_ | refine AtExit.blockExit ?_ | (refine AtExit.blockPast ?_ ?_; rfl))
        refine AtExit.inv fun a ha => ⟨_, ha.sub (by repeat (first | exact Sub.nil _ | refine Sub.cons rfl ?_)), fin (fun y hy => by cases hy)⟩
      · rw [List.concat_eq_append] at hcon
        subst hcon
        have hz : (C3 ++ [z]).length = C3.length + 1 := by simp
        refine WL.val rfl rfl (Runs.gtr rfl rfl (declt (show a < a + (C3 ++ [z]).length by omega))) ?_
        repeat (first | (refine WL.val ?_ ?_ (Runs.move rfl) ?_; rfl; rfl) | (refine WL.val ?_ ?_ (Runs.assign rfl) ?_; rfl; rfl) | (refine WL.val ?_ ?_ (Runs.extract rfl rfl) ?_; rfl; rfl) | (refine WL.val ?_ ?_ (Runs.nilCheck rfl) ?_; rfl; rfl) | (refine WL.val ?_ ?_ (Runs.pickT rfl rfl) ?_; rfl; rfl) | (refine WL.val ?_ ?_ (Runs.pickF rfl rfl) ?_; rfl; rfl) | (refine WL.val ?_ ?_ (Runs.len rfl sl22) ?_; rfl; rfl) | (refine WL.val ?_ ?_ (Runs.len rfl sl27) ?_; rfl; rfl) | (refine WL.val ?_ ?_ (Runs.len rfl sl37) ?_; rfl; rfl) | (refine WL.pass ?_ ?_ ?_; rfl; rfl))
        refine WL.val rfl rfl (Runs.fld rfl fl57_0) ?_
        refine WL.val rfl rfl (Runs.load rfl na44 hs.c0) ?_
        repeat (first | (refine WL.val ?_ ?_ (Runs.move rfl) ?_; rfl; rfl) | (refine WL.val ?_ ?_ (Runs.assign rfl) ?_; rfl; rfl) | (refine WL.val ?_ ?_ (Runs.extract rfl rfl) ?_; rfl; rfl) | (refine WL.val ?_ ?_ (Runs.nilCheck rfl) ?_; rfl; rfl) | (refine WL.val ?_ ?_ (Runs.pickT rfl rfl) ?_; rfl; rfl) | (refine WL.val ?_ ?_ (Runs.pickF rfl rfl) ?_; rfl; rfl) | (refine WL.val ?_ ?_ (Runs.len rfl sl22) ?_; rfl; rfl) | (refine WL.val ?_ ?_ (Runs.len rfl sl27) ?_; rfl; rfl) | (refine WL.val ?_ ?_ (Runs.len rfl sl37) ?_; rfl; rfl) | (refine WL.pass ?_ ?_ ?_; rfl; rfl))
        refine WL.val rfl rfl (Runs.sub rfl rfl (r := ((a + C3.length : Nat) : Int)) (wI (by omega) (by omega) (by omega))) ?_
        refine WL.call rfl rfl (RunsC.callV rfl rfl en9) (less_any hs.env (a + (C3 ++ [z]).length) (a + C3.length) (by omega) (by omega)) ?_
        rintro e w3 ⟨rfl, hbel⟩
        refine ⟨_, rfl, ?_⟩
        have d1 : dayI (P ++ (C3 ++ [z]) ++ x :: C2 ++ A.drop (c + 1) ++ S) (a + (C3 ++ [z]).length) = x.day := by
          rw [List.append_assoc (P ++ (C3 ++ [z])), List.cons_append, List.append_assoc (P ++ (C3 ++ [z])), List.cons_append]
          exact dayI_at _ _ _ (by rw [ha]; simp)
        have d2 : dayI (P ++ (C3 ++ [z]) ++ x :: C2 ++ A.drop (c + 1) ++ S) (a + C3.length) = z.day := by
          have e1 : P ++ (C3 ++ [z]) ++ x :: C2 ++ A.drop (c + 1) ++ S = (P ++ C3) ++ z :: (x :: C2 ++ A.drop (c + 1) ++ S) := by simp
          rw [e1]
          exact dayI_at _ _ _ (by rw [ha]; simp)
        rw [d1, d2]
        have hs3 := hs.below hbel
        by_cases hd : x.day < z.day
        · rw [dtrue hd]
          repeat (first | (refine WL.val ?_ ?_ (Runs.move rfl) ?_; rfl; rfl) | (refine WL.val ?_ ?_ (Runs.assign rfl) ?_; rfl; rfl) | (refine WL.val ?_ ?_ (Runs.extract rfl rfl) ?_; rfl; rfl) | (refine WL.val ?_ ?_ (Runs.nilCheck rfl) ?_; rfl; rfl) | (refine WL.val ?_ ?_ (Runs.pickT rfl rfl) ?_; rfl; rfl) | (refine WL.val ?_ ?_ (Runs.pickF rfl rfl) ?_; rfl; rfl) | (refine WL.val ?_ ?_ (Runs.len rfl sl22) ?_; rfl; rfl) | (refine WL.val ?_ ?_ (Runs.len rfl sl27) ?_; rfl; rfl) | (refine WL.val ?_ ?_ (Runs.len rfl sl37) ?_; rfl; rfl) | (refine WL.pass ?_ ?_ ?_; rfl; rfl))
          refine WL.nil ?_
          repeat (first | refine AtExit.thenRet ?_ | refine AtExit.thenExit ?_ | refine AtExit.blockRet ?_ | refine AtExit.blockEnd ?_ | refine AtExit.blockExit ?_ | (refine AtExit.blockPast ?_ ?_; rfl))
          refine AtExit.go ?_
          refine WC.condT rfl ?_
          refine WC.skip ?_
          repeat (first | refine AtExit.thenRet ?_ | refine AtExit.thenExit ?_ | refine AtExit.blockRet ?_ | refine AtExit.blockEnd ?_ | refine AtExit.blockExit ?_ | (refine AtExit.blockPast ?_ ?_; rfl))
          refine AtExit.go ?_
          have e1 : P ++ (C3 ++ [z]) ++ x :: C2 ++ A.drop (c + 1) ++ S = (P ++ C3) ++ z :: [] ++ x :: (C2 ++ A.drop (c + 1) ++ S) := by simp
          have e2 : P ++ C3 ++ x :: (z :: C2) ++ A.drop (c + 1) ++ S = (P ++ C3) ++ x :: [] ++ z :: (C2 ++ A.drop (c + 1) ++ S) := by simp
          have hs3' := hs3
          rw [e1] at hs3'
          have l1 : a + C3.length = (P ++ C3).length := by rw [List.length_append, ha]
          have l2 : a + (C3 ++ [z]).length = (P ++ C3).length + 1 + ([] : List Rc).length := by rw [List.length_append, List.length_append, ha]; simp; omega
          obtain ⟨w4, hrun, hE4, hg4⟩ := swap_run hs3'.env (i := a + (C3 ++ [z]).length) (j := a + C3.length) (x := x) (y := z) (by
            rw [l2]
            have := get_at (P ++ C3 ++ [z]) x (C2 ++ A.drop (c + 1) ++ S)
            rw [List.length_append] at this
            simpa using this) (by rw [l1, List.append_assoc, List.cons_append]; exact get_at _ _ _)
          rw [swap_split' _ _ _ _ _ _ _ l1 l2, ← e2] at hE4
          refine WC.seq (WC.block ?_)
          refine WC.region ?_
          refine WL.val rfl rfl (Runs.fld rfl fl57_1) ?_
          refine WL.val rfl rfl (Runs.load rfl na53 hs3.c1) ?_
          repeat (first | (refine WL.val ?_ ?_ (Runs.move rfl) ?_; rfl; rfl) | (refine WL.val ?_ ?_ (Runs.assign rfl) ?_; rfl; rfl) | (refine WL.val ?_ ?_ (Runs.extract rfl rfl) ?_; rfl; rfl) | (refine WL.val ?_ ?_ (Runs.nilCheck rfl) ?_; rfl; rfl) | (refine WL.val ?_ ?_ (Runs.pickT rfl rfl) ?_; rfl; rfl) | (refine WL.val ?_ ?_ (Runs.pickF rfl rfl) ?_; rfl; rfl) | (refine WL.val ?_ ?_ (Runs.len rfl sl22) ?_; rfl; rfl) | (refine WL.val ?_ ?_ (Runs.len rfl sl27) ?_; rfl; rfl) | (refine WL.val ?_ ?_ (Runs.len rfl sl37) ?_; rfl; rfl) | (refine WL.pass ?_ ?_ ?_; rfl; rfl))
          refine WL.val rfl rfl (Runs.sub rfl rfl (r := ((a + C3.length : Nat) : Int)) (wI (by omega) (by omega) (by omega))) ?_
          refine WL.val rfl rfl (Runs.callX rfl rfl hrun) ?_
          refine WL.nil ?_
          repeat (first | refine AtExit.thenRet ?_ | refine AtExit.thenExit ?_ | refine AtExit.blockRet ?_ | refine AtExit.blockEnd ?_ | refine AtExit.blockExit ?_ | (refine AtExit.blockPast ?_ ?_; rfl))
          refine AtExit.go ?_
          refine WC.region ?_
          repeat (first | (refine WL.val ?_ ?_ (Runs.move rfl) ?_; rfl; rfl) | (refine WL.val ?_ ?_ (Runs.assign rfl) ?_; rfl; rfl) | (refine WL.val ?_ ?_ (Runs.extract rfl rfl) ?_; rfl; rfl) | (refine WL.val ?_ ?_ (Runs.nilCheck rfl) ?_; rfl; rfl) | (refine WL.val ?_ ?_ (Runs.pickT rfl rfl) ?_; rfl; rfl) | (refine WL.val ?_ ?_ (Runs.pickF rfl rfl) ?_; rfl; rfl) | (refine WL.val ?_ ?_ (Runs.len rfl sl22) ?_; rfl; rfl) | (refine WL.val ?_ ?_ (Runs.len rfl sl27) ?_; rfl; rfl) | (refine WL.val ?_ ?_ (Runs.len rfl sl37) ?_; rfl; rfl) | (refine WL.pass ?_ ?_ ?_; rfl; rfl))
          refine WL.val rfl rfl (Runs.sub rfl rfl (r := ((a + C3.length : Nat) : Int)) (wI (by omega) (by omega) (by omega))) ?_
          repeat (first | (refine WL.val ?_ ?_ (Runs.move rfl) ?_; rfl; rfl) | (refine WL.val ?_ ?_ (Runs.assign rfl) ?_; rfl; rfl) | (refine WL.val ?_ ?_ (Runs.extract rfl rfl) ?_; rfl; rfl) | (refine WL.val ?_ ?_ (Runs.nilCheck rfl) ?_; rfl; rfl) | (refine WL.val ?_ ?_ (Runs.pickT rfl rfl) ?_; rfl; rfl) | (refine WL.val ?_ ?_ (Runs.pickF rfl rfl) ?_; rfl; rfl) | (refine WL.val ?_ ?_ (Runs.len rfl sl22) ?_; rfl; rfl) | (refine WL.val ?_ ?_ (Runs.len rfl sl27) ?_; rfl; rfl) | (refine WL.val ?_ ?_ (Runs.len rfl sl37) ?_; rfl; rfl) | (refine WL.pass ?_ ?_ ?_; rfl; rfl))
          refine WL.nil ?_
          repeat (first | refine AtExit.thenRet ?_ | refine AtExit.thenExit ?_ | refine AtExit.blockRet ?_ | refine AtExit.blockEnd ?_ | refine AtExit.blockExit ?_ | (refine AtExit.blockPast ?_ ?_; rfl))
          refine AtExit.inv fun a ha => ⟨(C3, z :: C2), ha.sub (by repeat (first | exact Sub.nil _ | refine Sub.cons rfl ?_)), ⟨by rw [← hCC]; simp, fun y hy => ?_, hs3.call hE4 hg4⟩, by show C3.length < (C3 ++ [z]).length; omega⟩
          rcases List.mem_cons.1 hy with rfl | hy
          · exact Or.inl hd
          · exact hlt y hy
        · rw [dfalse hd]
          repeat (first | (refine WL.val ?_ ?_ (Runs.move rfl) ?_; rfl; rfl) | (refine WL.val ?_ ?_ (Runs.assign rfl) ?_; rfl; rfl) | (refine WL.val ?_ ?_ (Runs.extract rfl rfl) ?_; rfl; rfl) | (refine WL.val ?_ ?_ (Runs.nilCheck rfl) ?_; rfl; rfl) | (refine WL.val ?_ ?_ (Runs.pickT rfl rfl) ?_; rfl; rfl) | (refine WL.val ?_ ?_ (Runs.pickF rfl rfl) ?_; rfl; rfl) | (refine WL.val ?_ ?_ (Runs.len rfl sl22) ?_; rfl; rfl) | (refine WL.val ?_ ?_ (Runs.len rfl sl27) ?_; rfl; rfl) | (refine WL.val ?_ ?_ (Runs.len rfl sl37) ?_; rfl; rfl) | (refine WL.pass ?_ ?_ ?_; rfl; rfl))
          refine WL.nil ?_
          repeat (first | refine AtExit.thenRet ?_ | refine AtExit.thenExit ?_ | refine AtExit.blockRet ?_ | refine AtExit.blockEnd ?_ | refine AtExit.blockExit ?_ | (refine AtExit.blockPast ?_ ?_; rfl))
          refine AtExit.go ?_
          refine WC.condF rfl ?_
          have hpre : (C3 ++ [z]).Pairwise lx := by
            rw [← hCC, List.pairwise_append] at hsrt
            exact hsrt.1
          have h1 := all_le_last (x := x) hpre (by omega) (fun y hy => hix y (by rw [← hCC]; exact List.mem_append_left _ hy))
          obtain ⟨f1, f2, f3⟩ := fin h1
          refine WC.exit ?_
          repeat (first | refine AtExit.thenRet ?_ | refine AtExit.thenExit ?_ | refine AtExit.blockRet ?_ | refine AtExit.blockEnd ?_ | refine AtExit.blockExit ?_ | (refine AtExit.blockPast ?_ ?_; rfl))
          refine AtExit.inv fun a ha => ⟨_, ha.sub (by repeat (first | exact Sub.nil _ | refine Sub.cons rfl ?_)), f1, f2, f3.below hbel⟩
    · rintro C' w2 ⟨hp', hs', hst'⟩
      refine WC.region ?_
      repeat (first | (refine WL.val ?_ ?_ (Runs.move rfl) ?_; rfl; rfl) | (refine WL.val ?_ ?_ (Runs.assign rfl) ?_; rfl; rfl) | (refine WL.val ?_ ?_ (Runs.extract rfl rfl) ?_; rfl; rfl) | (refine WL.val ?_ ?_ (Runs.nilCheck rfl) ?_; rfl; rfl) | (refine WL.val ?_ ?_ (Runs.pickT rfl rfl) ?_; rfl; rfl) | (refine WL.val ?_ ?_ (Runs.pickF rfl rfl) ?_; rfl; rfl) | (refine WL.val ?_ ?_ (Runs.len rfl sl22) ?_; rfl; rfl) | (refine WL.val ?_ ?_ (Runs.len rfl sl27) ?_; rfl; rfl) | (refine WL.val ?_ ?_ (Runs.len rfl sl37) ?_; rfl; rfl) | (refine WL.pass ?_ ?_ ?_; rfl; rfl))
      refine WL.val rfl rfl (Runs.add rfl rfl (r := ((a + (c + 1) : Nat) : Int)) (wI (by omega) (by omega) (by omega))) ?_
      repeat (first | (refine WL.val ?_ ?_ (Runs.move rfl) ?_; rfl; rfl) | (refine WL.val ?_ ?_ (Runs.assign rfl) ?_; rfl; rfl) | (refine WL.val ?_ ?_ (Runs.extract rfl rfl) ?_; rfl; rfl) | (refine WL.val ?_ ?_ (Runs.nilCheck rfl) ?_; rfl; rfl) | (refine WL.val ?_ ?_ (Runs.pickT rfl rfl) ?_; rfl; rfl) | (refine WL.val ?_ ?_ (Runs.pickF rfl rfl) ?_; rfl; rfl) | (refine WL.val ?_ ?_ (Runs.len rfl sl22) ?_; rfl; rfl) | (refine WL.val ?_ ?_ (Runs.len rfl sl27) ?_; rfl; rfl) | (refine WL.val ?_ ?_ (Runs.len rfl sl37) ?_; rfl; rfl) | (refine WL.pass ?_ ?_ ?_; rfl; rfl))
      refine WL.nil ?_
      repeat (first | refine AtExit.thenRet ?_ | refine AtExit.thenExit ?_ | refine AtExit.blockRet ?_ | refine AtExit.blockEnd ?_ | refine AtExit.blockExit ?_ | (refine AtExit.blockPast ?_ ?_; rfl))
      refine AtExit.inv fun a ha => ⟨(c + 1, C'), ha.sub (by repeat (first | exact Sub.nil _ | refine Sub.cons rfl ?_)), ⟨by omega, hp', hs', hst'⟩, by show A.length - (c + 1) < A.length - c; omega⟩
  · refine WL.val rfl rfl (Runs.lss rfl rfl (decge (show ¬ a + c < b by omega))) ?_
    refine WL.nil ?_
    repeat (first | refine AtExit.thenRet ?_ | refine AtExit.thenExit ?_ | refine AtExit.blockRet ?_ | refine AtExit.blockEnd ?_ | refine AtExit.blockExit ?_ | (refine AtExit.blockPast ?_ ?_; rfl))
    refine AtExit.go ?_
    refine WC.condF rfl ?_
    have d1 : A.drop c = [] := List.drop_eq_nil_of_le (by omega)
    have d2 : A.take c = A := List.take_of_length_le (by omega)
    rw [d1, List.append_nil] at hs
    rw [d2] at hp
    refine WC.exit ?_
    repeat (first | refine AtExit.thenRet ?_ | refine AtExit.thenExit ?_ | refine AtExit.blockRet ?_ | refine AtExit.blockEnd ?_ | refine AtExit.blockExit ?_ | (refine AtExit.blockPast ?_ ?_; rfl))
    exact post0e rfl ⟨rfl, ⟨C, hs.env, hp, hsrt⟩, hs.grown⟩
end
end Go.Proofs.Ybulkgfau
