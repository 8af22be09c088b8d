/- symMerge_func, walked. -/
import Derived.Test.YbulkgfauIns
namespace Go.Proofs.Ybulkgfau
open Go Go.Fr Go.RowKit Go.Lib

theorem get_mid {P A R : List Rc} {t : Nat} (h0 : P.length ≤ t) (h2 : t < P.length + A.length) : (P ++ A ++ R)[t]? = A[t - P.length]? := by
  rw [List.append_assoc, List.getElem?_append_right h0, List.getElem?_append_left (by omega)]
theorem mono_mid {P A R : List Rc} (hA : A.Pairwise lx) {t t' : Nat} (h0 : P.length ≤ t) (h1 : t ≤ t') (h2 : t' < P.length + A.length) : dayI (P ++ A ++ R) t ≤ dayI (P ++ A ++ R) t' := by
  obtain ⟨x, hx⟩ := get_some (V := A) (i := t - P.length) (by omega)
  obtain ⟨y, hy⟩ := get_some (V := A) (i := t' - P.length) (by omega)
  rw [dayI_of ((get_mid h0 (by omega)).trans hx), dayI_of ((get_mid (by omega) h2).trans hy)]
  exact day_mono hA hx hy (by omega)
theorem mem_take_mid {P A R : List Rc} {c : Nat} {y : Rc} (hy : y ∈ A.take c) : ∃ t, P.length ≤ t ∧ t < P.length + c ∧ t < P.length + A.length ∧ dayI (P ++ A ++ R) t = y.day := by
  obtain ⟨i, hi, he⟩ := mem_get hy
  rw [List.length_take] at hi
  rw [List.getElem?_take, if_pos (by omega)] at he
  refine ⟨P.length + i, by omega, by omega, by omega, dayI_of ?_⟩
  rw [get_mid (by omega) (by omega), show P.length + i - P.length = i from by omega]; exact he
theorem mem_drop_mid {P A R : List Rc} {c : Nat} {y : Rc} (hy : y ∈ A.drop c) : ∃ t, P.length + c ≤ t ∧ t < P.length + A.length ∧ dayI (P ++ A ++ R) t = y.day := by
  obtain ⟨i, hi, he⟩ := mem_get hy
  rw [List.length_drop] at hi
  rw [List.getElem?_drop] at he
  refine ⟨P.length + (c + i), by omega, by omega, dayI_of ?_⟩
  rw [get_mid (by omega) (by omega), show P.length + (c + i) - P.length = c + i from by omega]; exact he

theorem shr1 (s : Nat) : ((s : Nat) : Int).fdiv (2 ^ (min (1 : Int).toNat IntKind.u64.bits)) = ((s / 2 : Nat) : Int) := by
  show ((s : Nat) : Int).fdiv 2 = _
  rw [Int.fdiv_eq_ediv_of_nonneg _ (by decide)]; omega
theorem wU {x : Int} (h0 : 0 ≤ x) (h1 : x ≤ 9223372036854775807) : IntKind.u64.wrap x = x := by rw [IntKind.wrap_u64]; omega

section
variable {g q n cap : Nat}
set_option maxRecDepth 4000 in
set_option maxHeartbeats 1000000 in
theorem symMerge_any (hn : n ≤ 4096) : ∀ (k : Nat) (P A B S : List Rc) (a m b : Nat) (w : World), A.length + B.length = k → a = P.length → m = a + A.length → b = m + B.length → 0 < A.length → 0 < B.length →
    A.Pairwise lx → B.Pairwise lx → Apart A B → Env g q n cap w (P ++ A ++ B ++ S) →
    Calls Yba.prog 30 #[.agg #[lv q, sv g n cap], .int .i64 (a : Int), .int .i64 (m : Int), .int .i64 (b : Int)] w fun e w' => e = .returned (.tuple #[]) ∧ (∃ C, Env g q n cap w' (P ++ C ++ S) ∧ C.Perm (A ++ B) ∧ C.Pairwise lx) ∧ w.grownBy w' (some g) := by
  intro k
  induction k using Nat.strongRecOn with
  | _ k ih =>
  intro P A B S a m b w hk ha0 hm hb hA0 hB0 hA hB hAB hE
  have hlen := hE.len
  simp only [List.length_append] at hlen
  obtain ⟨l, hl⟩ : ∃ l, l = P ++ A ++ B ++ S := ⟨_, rfl⟩
  have lA : l = P ++ A ++ (B ++ S) := by rw [hl]; simp
  have lB : l = (P ++ A) ++ B ++ S := hl
  have mA : ∀ t t', a ≤ t → t ≤ t' → t' < m → dayI l t ≤ dayI l t' := fun t t' h0 h1 h2 => by rw [lA]; exact mono_mid hA (by omega) h1 (by omega)
  have mB : ∀ t t', m ≤ t → t ≤ t' → t' < b → dayI l t ≤ dayI l t' := fun t t' h0 h1 h2 => by rw [lB]; exact mono_mid hB (by rw [List.length_append]; omega) h1 (by rw [List.length_append]; omega)
  rw [← hl] at hE
  refine calls_of Yba.func30 rfl Yba.ntmps30 rfl ?_
  refine WC.seq (WC.region ?_)
  refine WL.val rfl rfl (Runs.box rfl) ?_
  refine WL.nil ?_
  repeat (first | refine AtExit.thenRet ?_ | refine AtExit.thenExit ?_ | refine AtExit.blockRet ?_ | refine AtExit.blockEnd ?_ | refine AtExit.blockExit ?_ | (refine AtExit.blockPast ?_ ?_; rfl))
  refine AtExit.go ?_
  have hst := St.start hE
  change St g q n cap w.heap.size w (w.alloc (.cells (Value.agg #[lv q, sv g n cap]).cells 57)) _ at hst
  generalize w.alloc _ = w1 at hst ⊢
  generalize w.heap.size = D at hst ⊢
  refine WC.seq ?_
  refine WC.seq (WC.region ?_)
  repeat (first | (refine WL.val ?_ ?_ (Runs.move rfl) ?_; rfl; rfl) | (refine WL.val ?_ ?_ (Runs.assign rfl) ?_; rfl; rfl) | (refine WL.val ?_ ?_ (Runs.extract rfl rfl) ?_; rfl; rfl) | (refine WL.val ?_ ?_ (Runs.nilCheck rfl) ?_; rfl; rfl) | (refine WL.val ?_ ?_ (Runs.pickT rfl rfl) ?_; rfl; rfl) | (refine WL.val ?_ ?_ (Runs.pickF rfl rfl) ?_; rfl; rfl) | (refine WL.val ?_ ?_ (Runs.len rfl sl22) ?_; rfl; rfl) | (refine WL.val ?_ ?_ (Runs.len rfl sl27) ?_; rfl; rfl) | (refine WL.val ?_ ?_ (Runs.len rfl sl37) ?_; rfl; rfl) | (refine WL.pass ?_ ?_ ?_; rfl; rfl))
  refine WL.val rfl rfl (Runs.sub rfl rfl (r := (A.length : Int)) (wI (by omega) (by omega) (by omega))) ?_
  by_cases hA1 : A.length = 1
  · refine WL.val rfl rfl (Runs.eql rfl rfl (r := true) (dtrue (by omega))) ?_
    refine WL.nil ?_
    repeat (first | refine AtExit.thenRet ?_ | refine AtExit.thenExit ?_ | refine AtExit.blockRet ?_ | refine AtExit.blockEnd ?_ | refine AtExit.blockExit ?_ | (refine AtExit.blockPast ?_ ?_; rfl))
    refine AtExit.go ?_
    refine WC.condT rfl ?_
    refine WC.seq (WC.region ?_)
    repeat (first | (refine WL.val ?_ ?_ (Runs.move rfl) ?_; rfl; rfl) | (refine WL.val ?_ ?_ (Runs.assign rfl) ?_; rfl; rfl) | (refine WL.val ?_ ?_ (Runs.extract rfl rfl) ?_; rfl; rfl) | (refine WL.val ?_ ?_ (Runs.nilCheck rfl) ?_; rfl; rfl) | (refine WL.val ?_ ?_ (Runs.pickT rfl rfl) ?_; rfl; rfl) | (refine WL.val ?_ ?_ (Runs.pickF rfl rfl) ?_; rfl; rfl) | (refine WL.val ?_ ?_ (Runs.len rfl sl22) ?_; rfl; rfl) | (refine WL.val ?_ ?_ (Runs.len rfl sl27) ?_; rfl; rfl) | (refine WL.val ?_ ?_ (Runs.len rfl sl37) ?_; rfl; rfl) | (refine WL.pass ?_ ?_ ?_; rfl; rfl))
    refine WL.nil ?_
    repeat (first | refine AtExit.thenRet ?_ | refine AtExit.thenExit ?_ | refine AtExit.blockRet ?_ | refine AtExit.blockEnd ?_ | refine AtExit.blockExit ?_ | (refine AtExit.blockPast ?_ ?_; rfl))
    refine AtExit.go ?_
    refine WC.seq (WC.region ?_)
    repeat (first | (refine WL.val ?_ ?_ (Runs.move rfl) ?_; rfl; rfl) | (refine WL.val ?_ ?_ (Runs.assign rfl) ?_; rfl; rfl) | (refine WL.val ?_ ?_ (Runs.extract rfl rfl) ?_; rfl; rfl) | (refine WL.val ?_ ?_ (Runs.nilCheck rfl) ?_; rfl; rfl) | (refine WL.val ?_ ?_ (Runs.pickT rfl rfl) ?_; rfl; rfl) | (refine WL.val ?_ ?_ (Runs.pickF rfl rfl) ?_; rfl; rfl) | (refine WL.val ?_ ?_ (Runs.len rfl sl22) ?_; rfl; rfl) | (refine WL.val ?_ ?_ (Runs.len rfl sl27) ?_; rfl; rfl) | (refine WL.val ?_ ?_ (Runs.len rfl sl37) ?_; rfl; rfl) | (refine WL.pass ?_ ?_ ?_; rfl; rfl))
    refine WL.nil ?_
    repeat (first | refine AtExit.thenRet ?_ | refine AtExit.thenExit ?_ | refine AtExit.blockRet ?_ | refine AtExit.blockEnd ?_ | refine AtExit.blockExit ?_ | (refine AtExit.blockPast ?_ ?_; rfl))
    refine AtExit.go ?_
    refine WC.cut (α := Nat) (fun i => [(1, .int .i64 (a : Int)), (4, .pointer (some ⟨D, 0, none⟩)), (8, .int .i64 (i : Int))])
      (fun i w' => m ≤ i ∧ i ≤ b ∧ (∀ t, m ≤ t → t < i → dayI l t < dayI l a) ∧ (∀ t, i ≤ t → t < b → ¬ dayI l t < dayI l a) ∧ St g q n cap D w w' l) ?_ ?_
    · refine WC.block ?_
      refine WC.loop (α := Nat × Nat) (fun | (i, j) => [(1, .int .i64 (a : Int)), (4, .pointer (some ⟨D, 0, none⟩)), (8, .int .i64 (i : Int)), (9, .int .i64 (j : Int))])
        (fun | (i, j) => fun w' => m ≤ i ∧ i ≤ j ∧ j ≤ b ∧ (∀ t, m ≤ t → t < i → dayI l t < dayI l a) ∧ (∀ t, j ≤ t → t < b → ¬ dayI l t < dayI l a) ∧ St g q n cap D w w' l) (fun | (i, j) => j - i) (m, b) (by repeat (first | exact Sub.nil _ | refine Sub.cons rfl ?_))
        ⟨Nat.le_refl _, by omega, Nat.le_refl _, fun t h1 h2 => by omega, fun t h1 h2 => by omega, hst⟩ ?_
      rintro ⟨i, j⟩ w' ⟨h1, h2, h3, h4, h5, hs⟩
      refine WC.seq ?_
      refine WC.seq (WC.region ?_)
      repeat (first | (refine WL.val ?_ ?_ (Runs.move rfl) ?_; rfl; rfl) | (refine WL.val ?_ ?_ (Runs.assign rfl) ?_; rfl; rfl) | (refine WL.val ?_ ?_ (Runs.extract rfl rfl) ?_; rfl; rfl) | (refine WL.val ?_ ?_ (Runs.nilCheck rfl) ?_; rfl; rfl) | (refine WL.val ?_ ?_ (Runs.pickT rfl rfl) ?_; rfl; rfl) | (refine WL.val ?_ ?_ (Runs.pickF rfl rfl) ?_; rfl; rfl) | (refine WL.val ?_ ?_ (Runs.len rfl sl22) ?_; rfl; rfl) | (refine WL.val ?_ ?_ (Runs.len rfl sl27) ?_; rfl; rfl) | (refine WL.val ?_ ?_ (Runs.len rfl sl37) ?_; rfl; rfl) | (refine WL.pass ?_ ?_ ?_; rfl; rfl))
      by_cases hij : i < j
      · refine WL.val rfl rfl (Runs.lss rfl rfl (declt hij)) ?_
        refine WL.nil ?_
        repeat (first | refine AtExit.thenRet ?_ | refine AtExit.thenExit ?_ | refine AtExit.blockRet ?_ | refine AtExit.blockEnd ?_ | refine AtExit.blockExit ?_ | (refine AtExit.blockPast ?_ ?_; rfl))
        refine AtExit.go ?_
        refine WC.condT rfl ?_
        refine WC.skip ?_
        repeat (first | refine AtExit.thenRet ?_ | refine AtExit.thenExit ?_ | refine AtExit.blockRet ?_ | refine AtExit.blockEnd ?_ | refine AtExit.blockExit ?_ | (refine AtExit.blockPast ?_ ?_; rfl))
        refine AtExit.go ?_
        refine WC.block ?_
        refine WC.seq (WC.region ?_)
        repeat (first | (refine WL.val ?_ ?_ (Runs.move rfl) ?_; rfl; rfl) | (refine WL.val ?_ ?_ (Runs.assign rfl) ?_; rfl; rfl) | (refine WL.val ?_ ?_ (Runs.extract rfl rfl) ?_; rfl; rfl) | (refine WL.val ?_ ?_ (Runs.nilCheck rfl) ?_; rfl; rfl) | (refine WL.val ?_ ?_ (Runs.pickT rfl rfl) ?_; rfl; rfl) | (refine WL.val ?_ ?_ (Runs.pickF rfl rfl) ?_; rfl; rfl) | (refine WL.val ?_ ?_ (Runs.len rfl sl22) ?_; rfl; rfl) | (refine WL.val ?_ ?_ (Runs.len rfl sl27) ?_; rfl; rfl) | (refine WL.val ?_ ?_ (Runs.len rfl sl37) ?_; rfl; rfl) | (refine WL.pass ?_ ?_ ?_; rfl; rfl))
        refine WL.val rfl rfl (Runs.add rfl rfl (r := ((i + j : Nat) : Int)) (wI (by omega) (by omega) (by omega))) ?_
        refine WL.val rfl rfl (Runs.conv rfl (by rw [Yba.underlying3]; rfl) Yba.underlying60 (wU (by omega) (by omega))) ?_
        refine WL.val rfl rfl (Runs.shr rfl rfl (by decide) (shr1 (i + j))) ?_
        refine WL.val rfl rfl (Runs.conv rfl (by rw [Yba.underlying60]; rfl) Yba.underlying3 (wI rfl (by omega) (by omega))) ?_
        repeat (first | (refine WL.val ?_ ?_ (Runs.move rfl) ?_; rfl; rfl) | (refine WL.val ?_ ?_ (Runs.assign rfl) ?_; rfl; rfl) | (refine WL.val ?_ ?_ (Runs.extract rfl rfl) ?_; rfl; rfl) | (refine WL.val ?_ ?_ (Runs.nilCheck rfl) ?_; rfl; rfl) | (refine WL.val ?_ ?_ (Runs.pickT rfl rfl) ?_; rfl; rfl) | (refine WL.val ?_ ?_ (Runs.pickF rfl rfl) ?_; rfl; rfl) | (refine WL.val ?_ ?_ (Runs.len rfl sl22) ?_; rfl; rfl) | (refine WL.val ?_ ?_ (Runs.len rfl sl27) ?_; rfl; rfl) | (refine WL.val ?_ ?_ (Runs.len rfl sl37) ?_; rfl; rfl) | (refine WL.pass ?_ ?_ ?_; rfl; rfl))
        refine WL.nil ?_
        repeat (first | refine AtExit.thenRet ?_ | refine AtExit.thenExit ?_ | refine AtExit.blockRet ?_ | refine AtExit.blockEnd ?_ | refine AtExit.blockExit ?_ | (refine AtExit.blockPast ?_ ?_; rfl))
        refine AtExit.go ?_
        generalize hh : (i + j) / 2 = h
        refine WC.seq (WC.region ?_)
        refine WL.val rfl rfl (Runs.fld rfl fl57_0) ?_
        refine WL.val rfl rfl (Runs.load rfl na44 hs.c0) ?_
        repeat (first | (refine WL.val ?_ ?_ (Runs.move rfl) ?_; rfl; rfl) | (refine WL.val ?_ ?_ (Runs.assign rfl) ?_; rfl; rfl) | (refine WL.val ?_ ?_ (Runs.extract rfl rfl) ?_; rfl; rfl) | (refine WL.val ?_ ?_ (Runs.nilCheck rfl) ?_; rfl; rfl) | (refine WL.val ?_ ?_ (Runs.pickT rfl rfl) ?_; rfl; rfl) | (refine WL.val ?_ ?_ (Runs.pickF rfl rfl) ?_; rfl; rfl) | (refine WL.val ?_ ?_ (Runs.len rfl sl22) ?_; rfl; rfl) | (refine WL.val ?_ ?_ (Runs.len rfl sl27) ?_; rfl; rfl) | (refine WL.val ?_ ?_ (Runs.len rfl sl37) ?_; rfl; rfl) | (refine WL.pass ?_ ?_ ?_; rfl; rfl))
        refine WL.call rfl rfl (RunsC.callV rfl rfl en9) (less_any hs.env h a (by omega) (by omega)) ?_
        rintro e w3 ⟨rfl, hbel⟩
        refine ⟨_, rfl, ?_⟩
        refine WL.nil ?_
        repeat (first | refine AtExit.thenRet ?_ | refine AtExit.thenExit ?_ | refine AtExit.blockRet ?_ | refine AtExit.blockEnd ?_ | refine AtExit.blockExit ?_ | (refine AtExit.blockPast ?_ ?_; rfl))
        refine AtExit.go ?_
        have hs3 := hs.below hbel
        refine WC.split rfl (fun hd => ?_) (fun hd => ?_)
        · have hd := of_decide_eq_true hd
          refine WC.region ?_
          repeat (first | (refine WL.val ?_ ?_ (Runs.move rfl) ?_; rfl; rfl) | (refine WL.val ?_ ?_ (Runs.assign rfl) ?_; rfl; rfl) | (refine WL.val ?_ ?_ (Runs.extract rfl rfl) ?_; rfl; rfl) | (refine WL.val ?_ ?_ (Runs.nilCheck rfl) ?_; rfl; rfl) | (refine WL.val ?_ ?_ (Runs.pickT rfl rfl) ?_; rfl; rfl) | (refine WL.val ?_ ?_ (Runs.pickF rfl rfl) ?_; rfl; rfl) | (refine WL.val ?_ ?_ (Runs.len rfl sl22) ?_; rfl; rfl) | (refine WL.val ?_ ?_ (Runs.len rfl sl27) ?_; rfl; rfl) | (refine WL.val ?_ ?_ (Runs.len rfl sl37) ?_; rfl; rfl) | (refine WL.pass ?_ ?_ ?_; rfl; rfl))
          refine WL.val rfl rfl (Runs.add rfl rfl (r := ((h + 1 : Nat) : Int)) (wI (by omega) (by omega) (by omega))) ?_
          repeat (first | (refine WL.val ?_ ?_ (Runs.move rfl) ?_; rfl; rfl) | (refine WL.val ?_ ?_ (Runs.assign rfl) ?_; rfl; rfl) | (refine WL.val ?_ ?_ (Runs.extract rfl rfl) ?_; rfl; rfl) | (refine WL.val ?_ ?_ (Runs.nilCheck rfl) ?_; rfl; rfl) | (refine WL.val ?_ ?_ (Runs.pickT rfl rfl) ?_; rfl; rfl) | (refine WL.val ?_ ?_ (Runs.pickF rfl rfl) ?_; rfl; rfl) | (refine WL.val ?_ ?_ (Runs.len rfl sl22) ?_; rfl; rfl) | (refine WL.val ?_ ?_ (Runs.len rfl sl27) ?_; rfl; rfl) | (refine WL.val ?_ ?_ (Runs.len rfl sl37) ?_; rfl; rfl) | (refine WL.pass ?_ ?_ ?_; rfl; rfl))
          refine WL.nil ?_
          repeat (first | refine AtExit.thenRet ?_ | refine AtExit.thenExit ?_ | refine AtExit.blockRet ?_ | refine AtExit.blockEnd ?_ | refine AtExit.blockExit ?_ | (refine AtExit.blockPast ?_ ?_; rfl))
          refine AtExit.inv fun a ha => ⟨(h + 1, j), ha.sub (by repeat (first | exact Sub.nil _ | refine Sub.cons rfl ?_)), ⟨by omega, by omega, h3, fun t g1 g2 => ?_, h5, hs3⟩, by show j - (h + 1) < j - i; omega⟩
          have := mB t h g1 (by omega) (by omega)
          omega
        · have hd := of_decide_eq_false hd
          refine WC.region ?_
          repeat (first | (refine WL.val ?_ ?_ (Runs.move rfl) ?_; rfl; rfl) | (refine WL.val ?_ ?_ (Runs.assign rfl) ?_; rfl; rfl) | (refine WL.val ?_ ?_ (Runs.extract rfl rfl) ?_; rfl; rfl) | (refine WL.val ?_ ?_ (Runs.nilCheck rfl) ?_; rfl; rfl) | (refine WL.val ?_ ?_ (Runs.pickT rfl rfl) ?_; rfl; rfl) | (refine WL.val ?_ ?_ (Runs.pickF rfl rfl) ?_; rfl; rfl) | (refine WL.val ?_ ?_ (Runs.len rfl sl22) ?_; rfl; rfl) | (refine WL.val ?_ ?_ (Runs.len rfl sl27) ?_; rfl; rfl) | (refine WL.val ?_ ?_ (Runs.len rfl sl37) ?_; rfl; rfl) | (refine WL.pass ?_ ?_ ?_; rfl; rfl))
          refine WL.nil ?_
          repeat (first | refine AtExit.thenRet ?_ | refine AtExit.thenExit ?_ | refine AtExit.blockRet ?_ | refine AtExit.blockEnd ?_ | refine AtExit.blockExit ?_ | (refine AtExit.blockPast ?_ ?_; rfl))
          refine AtExit.inv fun a ha => ⟨(i, h), ha.sub (by repeat (first | exact Sub.nil _ | refine Sub.cons rfl ?_)), ⟨h1, by omega, by omega, h4, fun t g1 g2 => ?_, hs3⟩, by show h - i < j - i; omega⟩
          have := mB h t (by omega) g1 g2
          omega
      · refine WL.val rfl rfl (Runs.lss rfl rfl (decge hij)) ?_
        refine WL.nil ?_
        repeat (first | refine AtExit.thenRet ?_ | refine AtExit.thenExit ?_ | refine AtExit.blockRet ?_ | refine AtExit.blockEnd ?_ | refine AtExit.blockExit ?_ | (refine AtExit.blockPast ?_ ?_; rfl))
        refine AtExit.go ?_
        refine WC.condF rfl ?_
        refine WC.exit ?_
        repeat (first | refine AtExit.thenRet ?_ | refine AtExit.thenExit ?_ | refine AtExit.blockRet ?_ | refine AtExit.blockEnd ?_ | refine AtExit.blockExit ?_ | (refine AtExit.blockPast ?_ ?_; rfl))
        refine AtExit.inv fun a ha => ⟨i, ha.sub (by repeat (first | exact Sub.nil _ | refine Sub.cons rfl ?_)), h1, by omega, h4, fun t g1 g2 => h5 t (by omega) g2, hs⟩
    rintro i w' ⟨h1, h2, h4, h5, hs⟩
    obtain ⟨x, hx⟩ : ∃ x, A = [x] := by
      match A, hA1 with
      | [x], _ => exact ⟨x, rfl⟩
    have hma : m = a + 1 := by omega
    have dx : dayI l a = x.day := by
      rw [lA, hx, List.append_assoc, ha0]; exact dayI_at _ _ _ rfl
    have fin : ∀ w2, St g q n cap D w w2 (P ++ B.take (i - m) ++ x :: B.drop (i - m) ++ S) → (∃ C, Env g q n cap w2 (P ++ C ++ S) ∧ C.Perm (A ++ B) ∧ C.Pairwise lx) ∧ w.grownBy w2 (some g) := fun w2 h => by
      refine ⟨⟨B.take (i - m) ++ x :: B.drop (i - m), by rw [← List.append_assoc]; exact h.env, ?_, one_left (by rw [List.take_append_drop]; exact hB) (fun y hy => ?_) (fun y hy => ?_) (fun y hy => ?_)⟩, h.grown⟩
      · rw [hx]
        refine List.perm_middle.trans ?_
        rw [List.take_append_drop]; exact List.Perm.refl _
      · rw [List.take_append_drop] at hy
        exact hAB x (by rw [hx]; simp) y hy
      · obtain ⟨t, t1, t2, t3, t4⟩ := mem_take_mid (P := P ++ A) (R := S) hy
        rw [← lB] at t4
        rw [List.length_append] at t1 t2 t3
        have := h4 t (by omega) (by omega)
        omega
      · obtain ⟨t, t1, t3, t4⟩ := mem_drop_mid (P := P ++ A) (R := S) hy
        rw [← lB] at t4
        rw [List.length_append] at t1 t3
        have := h5 t (by omega) (by omega)
        omega
    refine WC.cut (α := Unit) (fun _ => []) (fun _ w2 => (∃ C, Env g q n cap w2 (P ++ C ++ S) ∧ C.Perm (A ++ B) ∧ C.Pairwise lx) ∧ w.grownBy w2 (some g)) ?_ ?_
    · refine WC.seq (WC.region ?_)
      repeat (first | (refine WL.val ?_ ?_ (Runs.move rfl) ?_; rfl; rfl) | (refine WL.val ?_ ?_ (Runs.assign rfl) ?_; rfl; rfl) | (refine WL.val ?_ ?_ (Runs.extract rfl rfl) ?_; rfl; rfl) | (refine WL.val ?_ ?_ (Runs.nilCheck rfl) ?_; rfl; rfl) | (refine WL.val ?_ ?_ (Runs.pickT rfl rfl) ?_; rfl; rfl) | (refine WL.val ?_ ?_ (Runs.pickF rfl rfl) ?_; rfl; rfl) | (refine WL.val ?_ ?_ (Runs.len rfl sl22) ?_; rfl; rfl) | (refine WL.val ?_ ?_ (Runs.len rfl sl27) ?_; rfl; rfl) | (refine WL.val ?_ ?_ (Runs.len rfl sl37) ?_; rfl; rfl) | (refine WL.pass ?_ ?_ ?_; rfl; rfl))
      refine WL.nil ?_
      repeat (first | refine AtExit.thenRet ?_ | refine AtExit.thenExit ?_ | refine AtExit.blockRet ?_ | refine AtExit.blockEnd ?_ | refine AtExit.blockExit ?_ | (refine AtExit.blockPast ?_ ?_; rfl))
      refine AtExit.go ?_
      refine WC.block ?_
      refine WC.loop (α := Nat) (fun c => [(4, .pointer (some ⟨D, 0, none⟩)), (8, .int .i64 (i : Int)), (11, .int .i64 ((a + c : Nat) : Int))])
        (fun c w' => c ≤ i - m ∧ St g q n cap D w w' (P ++ B.take c ++ x :: B.drop c ++ S)) (fun c => i - m - c) 0 (by repeat (first | exact Sub.nil _ | refine Sub.cons rfl ?_)) ⟨Nat.zero_le _, by
          have e : P ++ B.take 0 ++ x :: B.drop 0 ++ S = l := by rw [lA, hx]; simp
          rw [e]; exact hs⟩ ?_
      clear hs
      rintro c w' ⟨hc, hs⟩
      refine WC.seq ?_
      refine WC.seq (WC.region ?_)
      repeat (first | (refine WL.val ?_ ?_ (Runs.move rfl) ?_; rfl; rfl) | (refine WL.val ?_ ?_ (Runs.assign rfl) ?_; rfl; rfl) | (refine WL.val ?_ ?_ (Runs.extract rfl rfl) ?_; rfl; rfl) | (refine WL.val ?_ ?_ (Runs.nilCheck rfl) ?_; rfl; rfl) | (refine WL.val ?_ ?_ (Runs.pickT rfl rfl) ?_; rfl; rfl) | (refine WL.val ?_ ?_ (Runs.pickF rfl rfl) ?_; rfl; rfl) | (refine WL.val ?_ ?_ (Runs.len rfl sl22) ?_; rfl; rfl) | (refine WL.val ?_ ?_ (Runs.len rfl sl27) ?_; rfl; rfl) | (refine WL.val ?_ ?_ (Runs.len rfl sl37) ?_; rfl; rfl) | (refine WL.pass ?_ ?_ ?_; rfl; rfl))
      refine WL.val rfl rfl (Runs.sub rfl rfl (r := ((i - 1 : Nat) : Int)) (wI (by omega) (by omega) (by omega))) ?_
      by_cases hci : a + c < i - 1
      · refine WL.val rfl rfl (Runs.lss rfl rfl (declt hci)) ?_
        refine WL.nil ?_
        repeat (first | refine AtExit.thenRet ?_ | refine AtExit.thenExit ?_ | refine AtExit.blockRet ?_ | refine AtExit.blockEnd ?_ | refine AtExit.blockExit ?_ | (refine AtExit.blockPast ?_ ?_; rfl))
        refine AtExit.go ?_
        refine WC.condT rfl ?_
        refine WC.skip ?_
        repeat (first | refine AtExit.thenRet ?_ | refine AtExit.thenExit ?_ | refine AtExit.blockRet ?_ | refine AtExit.blockEnd ?_ | refine AtExit.blockExit ?_ | (refine AtExit.blockPast ?_ ?_; rfl))
        refine AtExit.go ?_
        refine WC.seq (WC.block ?_)
        obtain ⟨y, hy⟩ := get_some (V := B) (i := c) (by omega)
        have e1 : P ++ B.take c ++ x :: B.drop c ++ S = (P ++ B.take c) ++ x :: [] ++ y :: (B.drop (c + 1) ++ S) := by rw [drop_one hy]; simp
        have e2 : P ++ B.take (c + 1) ++ x :: B.drop (c + 1) ++ S = (P ++ B.take c) ++ y :: [] ++ x :: (B.drop (c + 1) ++ S) := by rw [take_one hy]; simp
        have hs' := hs
        rw [e1] at hs'
        have l1 : a + c = (P ++ B.take c).length := by rw [List.length_append, List.length_take]; omega
        have l2 : a + (c + 1) = (P ++ B.take c).length + 1 + ([] : List Rc).length := by rw [List.length_append, List.length_take, List.length_nil]; omega
        obtain ⟨w4, hrun, hE4, hg4⟩ := swap_run hs'.env (i := a + c) (j := a + (c + 1)) (x := x) (y := y) (by rw [l1, List.append_assoc, List.cons_append]; exact get_at _ _ _) (by
          rw [l2]
          have := get_at (P ++ B.take c ++ [x]) y (B.drop (c + 1) ++ S)
          rw [List.length_append] at this
          simpa using this)
        rw [swap_split _ _ _ _ _ _ _ l1 l2, ← e2] at hE4
        refine WC.region ?_
        refine WL.val rfl rfl (Runs.fld rfl fl57_1) ?_
        refine WL.val rfl rfl (Runs.load rfl na53 hs.c1) ?_
        repeat (first | (refine WL.val ?_ ?_ (Runs.move rfl) ?_; rfl; rfl) | (refine WL.val ?_ ?_ (Runs.assign rfl) ?_; rfl; rfl) | (refine WL.val ?_ ?_ (Runs.extract rfl rfl) ?_; rfl; rfl) | (refine WL.val ?_ ?_ (Runs.nilCheck rfl) ?_; rfl; rfl) | (refine WL.val ?_ ?_ (Runs.pickT rfl rfl) ?_; rfl; rfl) | (refine WL.val ?_ ?_ (Runs.pickF rfl rfl) ?_; rfl; rfl) | (refine WL.val ?_ ?_ (Runs.len rfl sl22) ?_; rfl; rfl) | (refine WL.val ?_ ?_ (Runs.len rfl sl27) ?_; rfl; rfl) | (refine WL.val ?_ ?_ (Runs.len rfl sl37) ?_; rfl; rfl) | (refine WL.pass ?_ ?_ ?_; rfl; rfl))
        refine WL.val rfl rfl (Runs.add rfl rfl (r := ((a + (c + 1) : Nat) : Int)) (wI (by omega) (by omega) (by omega))) ?_
        refine WL.val rfl rfl (Runs.callX rfl rfl hrun) ?_
        refine WL.nil ?_
        repeat (first | refine AtExit.thenRet ?_ | refine AtExit.thenExit ?_ | refine AtExit.blockRet ?_ | refine AtExit.blockEnd ?_ | refine AtExit.blockExit ?_ | (refine AtExit.blockPast ?_ ?_; rfl))
        refine AtExit.go ?_
        refine WC.region ?_
        repeat (first | (refine WL.val ?_ ?_ (Runs.move rfl) ?_; rfl; rfl) | (refine WL.val ?_ ?_ (Runs.assign rfl) ?_; rfl; rfl) | (refine WL.val ?_ ?_ (Runs.extract rfl rfl) ?_; rfl; rfl) | (refine WL.val ?_ ?_ (Runs.nilCheck rfl) ?_; rfl; rfl) | (refine WL.val ?_ ?_ (Runs.pickT rfl rfl) ?_; rfl; rfl) | (refine WL.val ?_ ?_ (Runs.pickF rfl rfl) ?_; rfl; rfl) | (refine WL.val ?_ ?_ (Runs.len rfl sl22) ?_; rfl; rfl) | (refine WL.val ?_ ?_ (Runs.len rfl sl27) ?_; rfl; rfl) | (refine WL.val ?_ ?_ (Runs.len rfl sl37) ?_; rfl; rfl) | (refine WL.pass ?_ ?_ ?_; rfl; rfl))
        refine WL.val rfl rfl (Runs.add rfl rfl (r := ((a + (c + 1) : Nat) : Int)) (wI (by omega) (by omega) (by omega))) ?_
        repeat (first | (refine WL.val ?_ ?_ (Runs.move rfl) ?_; rfl; rfl) | (refine WL.val ?_ ?_ (Runs.assign rfl) ?_; rfl; rfl) | (refine WL.val ?_ ?_ (Runs.extract rfl rfl) ?_; rfl; rfl) | (refine WL.val ?_ ?_ (Runs.nilCheck rfl) ?_; rfl; rfl) | (refine WL.val ?_ ?_ (Runs.pickT rfl rfl) ?_; rfl; rfl) | (refine WL.val ?_ ?_ (Runs.pickF rfl rfl) ?_; rfl; rfl) | (refine WL.val ?_ ?_ (Runs.len rfl sl22) ?_; rfl; rfl) | (refine WL.val ?_ ?_ (Runs.len rfl sl27) ?_; rfl; rfl) | (refine WL.val ?_ ?_ (Runs.len rfl sl37) ?_; rfl; rfl) | (refine WL.pass ?_ ?_ ?_; rfl; rfl))
        refine WL.nil ?_
        repeat (first | refine AtExit.thenRet ?_ | refine AtExit.thenExit ?_ | refine AtExit.blockRet ?_ | refine AtExit.blockEnd ?_ | refine AtExit.blockExit ?_ | (refine AtExit.blockPast ?_ ?_; rfl))
        refine AtExit.inv fun a ha => ⟨c + 1, ha.sub (by repeat (first | exact Sub.nil _ | refine Sub.cons rfl ?_)), ⟨by omega, hs.call hE4 hg4⟩, by omega⟩
      · refine WL.val rfl rfl (Runs.lss rfl rfl (decge hci)) ?_
        refine WL.nil ?_
        repeat (first | refine AtExit.thenRet ?_ | refine AtExit.thenExit ?_ | refine AtExit.blockRet ?_ | refine AtExit.blockEnd ?_ | refine AtExit.blockExit ?_ | (refine AtExit.blockPast ?_ ?_; rfl))
        refine AtExit.go ?_
        refine WC.condF rfl ?_
        have : c = i - m := by omega
        subst this
        refine WC.exit ?_
        repeat (first | refine AtExit.thenRet ?_ | refine AtExit.thenExit ?_ | refine AtExit.blockRet ?_ | refine AtExit.blockEnd ?_ | refine AtExit.blockExit ?_ | (refine AtExit.blockPast ?_ ?_; rfl))
        refine AtExit.inv fun a ha => ⟨(), ha.sub (Sub.nil _), fin _ hs⟩
    rintro _ w2 h
    refine WC.ret ?_
    repeat (first | refine AtExit.thenRet ?_ | refine AtExit.thenExit ?_ | refine AtExit.blockRet ?_ | refine AtExit.blockEnd ?_ | refine AtExit.blockExit ?_ | (refine AtExit.blockPast ?_ ?_; rfl))
    exact post0 rfl ⟨rfl, h.1, h.2⟩
  refine WL.val rfl rfl (Runs.eql rfl rfl (r := false) (dfalse (by omega))) ?_
  refine WL.nil ?_
  repeat (first | refine AtExit.thenRet ?_ | refine AtExit.thenExit ?_ | refine AtExit.blockRet ?_ | refine AtExit.blockEnd ?_ | refine AtExit.blockExit ?_ | (refine AtExit.blockPast ?_ ?_; rfl))
  refine AtExit.go ?_
  refine WC.condF rfl ?_
  refine WC.skip ?_
  repeat (first | refine AtExit.thenRet ?_ | refine AtExit.thenExit ?_ | refine AtExit.blockRet ?_ | refine AtExit.blockEnd ?_ | refine AtExit.blockExit ?_ | (refine AtExit.blockPast ?_ ?_; rfl))
  refine AtExit.go ?_
  refine WC.seq ?_
  refine WC.seq (WC.region ?_)
  repeat (first | (refine WL.val ?_ ?_ (Runs.move rfl) ?_; rfl; rfl) | (refine WL.val ?_ ?_ (Runs.assign rfl) ?_; rfl; rfl) | (refine WL.val ?_ ?_ (Runs.extract rfl rfl) ?_; rfl; rfl) | (refine WL.val ?_ ?_ (Runs.nilCheck rfl) ?_; rfl; rfl) | (refine WL.val ?_ ?_ (Runs.pickT rfl rfl) ?_; rfl; rfl) | (refine WL.val ?_ ?_ (Runs.pickF rfl rfl) ?_; rfl; rfl) | (refine WL.val ?_ ?_ (Runs.len rfl sl22) ?_; rfl; rfl) | (refine WL.val ?_ ?_ (Runs.len rfl sl27) ?_; rfl; rfl) | (refine WL.val ?_ ?_ (Runs.len rfl sl37) ?_; rfl; rfl) | (refine WL.pass ?_ ?_ ?_; rfl; rfl))
  refine WL.val rfl rfl (Runs.sub rfl rfl (r := (B.length : Int)) (wI (by omega) (by omega) (by omega))) ?_
  by_cases hB1 : B.length = 1
  · refine WL.val rfl rfl (Runs.eql rfl rfl (r := true) (dtrue (by omega))) ?_
    refine WL.nil ?_
    repeat (first | refine AtExit.thenRet ?_ | refine AtExit.thenExit ?_ | refine AtExit.blockRet ?_ | refine AtExit.blockEnd ?_ | refine AtExit.blockExit ?_ | (refine AtExit.blockPast ?_ ?_; rfl))
    refine AtExit.go ?_
    refine WC.condT rfl ?_
    refine WC.seq (WC.region ?_)
    repeat (first | (refine WL.val ?_ ?_ (Runs.move rfl) ?_; rfl; rfl) | (refine WL.val ?_ ?_ (Runs.assign rfl) ?_; rfl; rfl) | (refine WL.val ?_ ?_ (Runs.extract rfl rfl) ?_; rfl; rfl) | (refine WL.val ?_ ?_ (Runs.nilCheck rfl) ?_; rfl; rfl) | (refine WL.val ?_ ?_ (Runs.pickT rfl rfl) ?_; rfl; rfl) | (refine WL.val ?_ ?_ (Runs.pickF rfl rfl) ?_; rfl; rfl) | (refine WL.val ?_ ?_ (Runs.len rfl sl22) ?_; rfl; rfl) | (refine WL.val ?_ ?_ (Runs.len rfl sl27) ?_; rfl; rfl) | (refine WL.val ?_ ?_ (Runs.len rfl sl37) ?_; rfl; rfl) | (refine WL.pass ?_ ?_ ?_; rfl; rfl))
    refine WL.nil ?_
    repeat (first | refine AtExit.thenRet ?_ | refine AtExit.thenExit ?_ | refine AtExit.blockRet ?_ | refine AtExit.blockEnd ?_ | refine AtExit.blockExit ?_ | (refine AtExit.blockPast ?_ ?_; rfl))
    refine AtExit.go ?_
    refine WC.seq (WC.region ?_)
    repeat (first | (refine WL.val ?_ ?_ (Runs.move rfl) ?_; rfl; rfl) | (refine WL.val ?_ ?_ (Runs.assign rfl) ?_; rfl; rfl) | (refine WL.val ?_ ?_ (Runs.extract rfl rfl) ?_; rfl; rfl) | (refine WL.val ?_ ?_ (Runs.nilCheck rfl) ?_; rfl; rfl) | (refine WL.val ?_ ?_ (Runs.pickT rfl rfl) ?_; rfl; rfl) | (refine WL.val ?_ ?_ (Runs.pickF rfl rfl) ?_; rfl; rfl) | (refine WL.val ?_ ?_ (Runs.len rfl sl22) ?_; rfl; rfl) | (refine WL.val ?_ ?_ (Runs.len rfl sl27) ?_; rfl; rfl) | (refine WL.val ?_ ?_ (Runs.len rfl sl37) ?_; rfl; rfl) | (refine WL.pass ?_ ?_ ?_; rfl; rfl))
    refine WL.nil ?_
    repeat (first | refine AtExit.thenRet ?_ | refine AtExit.thenExit ?_ | refine AtExit.blockRet ?_ | refine AtExit.blockEnd ?_ | refine AtExit.blockExit ?_ | (refine AtExit.blockPast ?_ ?_; rfl))
    refine AtExit.go ?_
    refine WC.cut (α := Nat) (fun i => [(2, .int .i64 (m : Int)), (4, .pointer (some ⟨D, 0, none⟩)), (12, .int .i64 (i : Int))])
      (fun i w' => a ≤ i ∧ i ≤ m ∧ (∀ t, a ≤ t → t < i → ¬ dayI l m < dayI l t) ∧ (∀ t, i ≤ t → t < m → dayI l m < dayI l t) ∧ St g q n cap D w w' l) ?_ ?_
    · refine WC.block ?_
      refine WC.loop (α := Nat × Nat) (fun | (i, j) => [(2, .int .i64 (m : Int)), (4, .pointer (some ⟨D, 0, none⟩)), (12, .int .i64 (i : Int)), (13, .int .i64 (j : Int))])
        (fun | (i, j) => fun w' => a ≤ i ∧ i ≤ j ∧ j ≤ m ∧ (∀ t, a ≤ t → t < i → ¬ dayI l m < dayI l t) ∧ (∀ t, j ≤ t → t < m → dayI l m < dayI l t) ∧ St g q n cap D w w' l) (fun | (i, j) => j - i) (a, m) (by repeat (first | exact Sub.nil _ | refine Sub.cons rfl ?_))
        ⟨Nat.le_refl _, by omega, Nat.le_refl _, fun t h1 h2 => by omega, fun t h1 h2 => by omega, hst⟩ ?_
      rintro ⟨i, j⟩ w' ⟨h1, h2, h3, h4, h5, hs⟩
      refine WC.seq ?_
      refine WC.seq (WC.region ?_)
      repeat (first | (refine WL.val ?_ ?_ (Runs.move rfl) ?_; rfl; rfl) | (refine WL.val ?_ ?_ (Runs.assign rfl) ?_; rfl; rfl) | (refine WL.val ?_ ?_ (Runs.extract rfl rfl) ?_; rfl; rfl) | (refine WL.val ?_ ?_ (Runs.nilCheck rfl) ?_; rfl; rfl) | (refine WL.val ?_ ?_ (Runs.pickT rfl rfl) ?_; rfl; rfl) | (refine WL.val ?_ ?_ (Runs.pickF rfl rfl) ?_; rfl; rfl) | (refine WL.val ?_ ?_ (Runs.len rfl sl22) ?_; rfl; rfl) | (refine WL.val ?_ ?_ (Runs.len rfl sl27) ?_; rfl; rfl) | (refine WL.val ?_ ?_ (Runs.len rfl sl37) ?_; rfl; rfl) | (refine WL.pass ?_ ?_ ?_; rfl; rfl))
      by_cases hij : i < j
      · refine WL.val rfl rfl (Runs.lss rfl rfl (declt hij)) ?_
        refine WL.nil ?_
        repeat (first | refine AtExit.thenRet ?_ | refine AtExit.thenExit ?_ | refine AtExit.blockRet ?_ | refine AtExit.blockEnd ?_ | refine AtExit.blockExit ?_ | (refine AtExit.blockPast ?_ ?_; rfl))
        refine AtExit.go ?_
        refine WC.condT rfl ?_
        refine WC.skip ?_
        repeat (first | refine AtExit.thenRet ?_ | refine AtExit.thenExit ?_ | refine AtExit.blockRet ?_ | refine AtExit.blockEnd ?_ | refine AtExit.blockExit ?_ | (refine AtExit.blockPast ?_ ?_; rfl))
        refine AtExit.go ?_
        refine WC.block ?_
        refine WC.seq (WC.region ?_)
        repeat (first | (refine WL.val ?_ ?_ (Runs.move rfl) ?_; rfl; rfl) | (refine WL.val ?_ ?_ (Runs.assign rfl) ?_; rfl; rfl) | (refine WL.val ?_ ?_ (Runs.extract rfl rfl) ?_; rfl; rfl) | (refine WL.val ?_ ?_ (Runs.nilCheck rfl) ?_; rfl; rfl) | (refine WL.val ?_ ?_ (Runs.pickT rfl rfl) ?_; rfl; rfl) | (refine WL.val ?_ ?_ (Runs.pickF rfl rfl) ?_; rfl; rfl) | (refine WL.val ?_ ?_ (Runs.len rfl sl22) ?_; rfl; rfl) | (refine WL.val ?_ ?_ (Runs.len rfl sl27) ?_; rfl; rfl) | (refine WL.val ?_ ?_ (Runs.len rfl sl37) ?_; rfl; rfl) | (refine WL.pass ?_ ?_ ?_; rfl; rfl))
        refine WL.val rfl rfl (Runs.add rfl rfl (r := ((i + j : Nat) : Int)) (wI (by omega) (by omega) (by omega))) ?_
        refine WL.val rfl rfl (Runs.conv rfl (by rw [Yba.underlying3]; rfl) Yba.underlying60 (wU (by omega) (by omega))) ?_
        refine WL.val rfl rfl (Runs.shr rfl rfl (by decide) (shr1 (i + j))) ?_
        refine WL.val rfl rfl (Runs.conv rfl (by rw [Yba.underlying60]; rfl) Yba.underlying3 (wI rfl (by omega) (by omega))) ?_
        repeat (first | (refine WL.val ?_ ?_ (Runs.move rfl) ?_; rfl; rfl) | (refine WL.val ?_ ?_ (Runs.assign rfl) ?_; rfl; rfl) | (refine WL.val ?_ ?_ (Runs.extract rfl rfl) ?_; rfl; rfl) | (refine WL.val ?_ ?_ (Runs.nilCheck rfl) ?_; rfl; rfl) | (refine WL.val ?_ ?_ (Runs.pickT rfl rfl) ?_; rfl; rfl) | (refine WL.val ?_ ?_ (Runs.pickF rfl rfl) ?_; rfl; rfl) | (refine WL.val ?_ ?_ (Runs.len rfl sl22) ?_; rfl; rfl) | (refine WL.val ?_ ?_ (Runs.len rfl sl27) ?_; rfl; rfl) | (refine WL.val ?_ ?_ (Runs.len rfl sl37) ?_; rfl; rfl) | (refine WL.pass ?_ ?_ ?_; rfl; rfl))
        refine WL.nil ?_
        repeat (first | refine AtExit.thenRet ?_ | refine AtExit.thenExit ?_ | refine AtExit.blockRet ?_ | refine AtExit.blockEnd ?_ | refine AtExit.blockExit ?_ | (refine AtExit.blockPast ?_ ?_; rfl))
        refine AtExit.go ?_
        generalize hh : (i + j) / 2 = h
        refine WC.seq (WC.region ?_)
        refine WL.val rfl rfl (Runs.fld rfl fl57_0) ?_
        refine WL.val rfl rfl (Runs.load rfl na44 hs.c0) ?_
        repeat (first | (refine WL.val ?_ ?_ (Runs.move rfl) ?_; rfl; rfl) | (refine WL.val ?_ ?_ (Runs.assign rfl) ?_; rfl; rfl) | (refine WL.val ?_ ?_ (Runs.extract rfl rfl) ?_; rfl; rfl) | (refine WL.val ?_ ?_ (Runs.nilCheck rfl) ?_; rfl; rfl) | (refine WL.val ?_ ?_ (Runs.pickT rfl rfl) ?_; rfl; rfl) | (refine WL.val ?_ ?_ (Runs.pickF rfl rfl) ?_; rfl; rfl) | (refine WL.val ?_ ?_ (Runs.len rfl sl22) ?_; rfl; rfl) | (refine WL.val ?_ ?_ (Runs.len rfl sl27) ?_; rfl; rfl) | (refine WL.val ?_ ?_ (Runs.len rfl sl37) ?_; rfl; rfl) | (refine WL.pass ?_ ?_ ?_; rfl; rfl))
        refine WL.call rfl rfl (RunsC.callV rfl rfl en9) (less_any hs.env m h (by omega) (by omega)) ?_
        rintro e w3 ⟨rfl, hbel⟩
        refine ⟨_, rfl, ?_⟩
        refine WL.val rfl rfl (Runs.not rfl) ?_
        refine WL.nil ?_
        repeat (first | refine AtExit.thenRet ?_ | refine AtExit.thenExit ?_ | refine AtExit.blockRet ?_ | refine AtExit.blockEnd ?_ | refine AtExit.blockExit ?_ | (refine AtExit.blockPast ?_ ?_; rfl))
        refine AtExit.go ?_
        have hs3 := hs.below hbel
        refine WC.split rfl (fun hd => ?_) (fun hd => ?_)
        · have hd : ¬ dayI l m < dayI l h := by simpa using hd
          refine WC.region ?_
          repeat (first | (refine WL.val ?_ ?_ (Runs.move rfl) ?_; rfl; rfl) | (refine WL.val ?_ ?_ (Runs.assign rfl) ?_; rfl; rfl) | (refine WL.val ?_ ?_ (Runs.extract rfl rfl) ?_; rfl; rfl) | (refine WL.val ?_ ?_ (Runs.nilCheck rfl) ?_; rfl; rfl) | (refine WL.val ?_ ?_ (Runs.pickT rfl rfl) ?_; rfl; rfl) | (refine WL.val ?_ ?_ (Runs.pickF rfl rfl) ?_; rfl; rfl) | (refine WL.val ?_ ?_ (Runs.len rfl sl22) ?_; rfl; rfl) | (refine WL.val ?_ ?_ (Runs.len rfl sl27) ?_; rfl; rfl) | (refine WL.val ?_ ?_ (Runs.len rfl sl37) ?_; rfl; rfl) | (refine WL.pass ?_ ?_ ?_; rfl; rfl))
          refine WL.val rfl rfl (Runs.add rfl rfl (r := ((h + 1 : Nat) : Int)) (wI (by omega) (by omega) (by omega))) ?_
          repeat (first | (refine WL.val ?_ ?_ (Runs.move rfl) ?_; rfl; rfl) | (refine WL.val ?_ ?_ (Runs.assign rfl) ?_; rfl; rfl) | (refine WL.val ?_ ?_ (Runs.extract rfl rfl) ?_; rfl; rfl) | (refine WL.val ?_ ?_ (Runs.nilCheck rfl) ?_; rfl; rfl) | (refine WL.val ?_ ?_ (Runs.pickT rfl rfl) ?_; rfl; rfl) | (refine WL.val ?_ ?_ (Runs.pickF rfl rfl) ?_; rfl; rfl) | (refine WL.val ?_ ?_ (Runs.len rfl sl22) ?_; rfl; rfl) | (refine WL.val ?_ ?_ (Runs.len rfl sl27) ?_; rfl; rfl) | (refine WL.val ?_ ?_ (Runs.len rfl sl37) ?_; rfl; rfl) | (refine WL.pass ?_ ?_ ?_; rfl; rfl))
          refine WL.nil ?_
          repeat (first | refine AtExit.thenRet ?_ | refine AtExit.thenExit ?_ | refine AtExit.blockRet ?_ | refine AtExit.blockEnd ?_ | refine AtExit.blockExit ?_ | (refine AtExit.blockPast ?_ ?_; rfl))
          refine AtExit.inv fun a ha => ⟨(h + 1, j), ha.sub (by repeat (first | exact Sub.nil _ | refine Sub.cons rfl ?_)), ⟨by omega, by omega, h3, fun t g1 g2 => ?_, h5, hs3⟩, by show j - (h + 1) < j - i; omega⟩
          have := mA t h g1 (by omega) (by omega)
          omega
        · have hd : dayI l m < dayI l h := by simpa using hd
          refine WC.region ?_
          repeat (first | (refine WL.val ?_ ?_ (Runs.move rfl) ?_; rfl; rfl) | (refine WL.val ?_ ?_ (Runs.assign rfl) ?_; rfl; rfl) | (refine WL.val ?_ ?_ (Runs.extract rfl rfl) ?_; rfl; rfl) | (refine WL.val ?_ ?_ (Runs.nilCheck rfl) ?_; rfl; rfl) | (refine WL.val ?_ ?_ (Runs.pickT rfl rfl) ?_; rfl; rfl) | (refine WL.val ?_ ?_ (Runs.pickF rfl rfl) ?_; rfl; rfl) | (refine WL.val ?_ ?_ (Runs.len rfl sl22) ?_; rfl; rfl) | (refine WL.val ?_ ?_ (Runs.len rfl sl27) ?_; rfl; rfl) | (refine WL.val ?_ ?_ (Runs.len rfl sl37) ?_; rfl; rfl) | (refine WL.pass ?_ ?_ ?_; rfl; rfl))
          refine WL.nil ?_
          repeat (first | refine AtExit.thenRet ?_ | refine AtExit.thenExit ?_ | refine AtExit.blockRet ?_ | refine AtExit.blockEnd ?_ | refine AtExit.blockExit ?_ | (refine AtExit.blockPast ?_ ?_; rfl))
          refine AtExit.inv fun a ha => ⟨(i, h), ha.sub (by repeat (first | exact Sub.nil _ | refine Sub.cons rfl ?_)), ⟨h1, by omega, by omega, h4, fun t g1 g2 => ?_, hs3⟩, by show h - i < j - i; omega⟩
          have := mA h t (by omega) g1 g2
          omega
      · refine WL.val rfl rfl (Runs.lss rfl rfl (decge hij)) ?_
        refine WL.nil ?_
        repeat (first | refine AtExit.thenRet ?_ | refine AtExit.thenExit ?_ | refine AtExit.blockRet ?_ | refine AtExit.blockEnd ?_ | refine AtExit.blockExit ?_ | (refine AtExit.blockPast ?_ ?_; rfl))
        refine AtExit.go ?_
        refine WC.condF rfl ?_
        refine WC.exit ?_
        repeat (first | refine AtExit.thenRet ?_ | refine AtExit.thenExit ?_ | refine AtExit.blockRet ?_ | refine AtExit.blockEnd ?_ | refine AtExit.blockExit ?_ | (refine AtExit.blockPast ?_ ?_; rfl))
        refine AtExit.inv fun a ha => ⟨i, ha.sub (by repeat (first | exact Sub.nil _ | refine Sub.cons rfl ?_)), h1, by omega, h4, fun t g1 g2 => h5 t (by omega) g2, hs⟩
    rintro i w' ⟨h1, h2, h4, h5, hs⟩
    obtain ⟨y, hy⟩ : ∃ y, B = [y] := by
      match B, hB1 with
      | [x], _ => exact ⟨x, rfl⟩
    have dy : dayI l m = y.day := by
      rw [lB, hy, List.append_assoc]; exact dayI_at _ _ _ (by rw [List.length_append]; omega)
    have fin : ∀ w2, St g q n cap D w w2 (P ++ A.take (i - a) ++ y :: A.drop (i - a) ++ S) → (∃ C, Env g q n cap w2 (P ++ C ++ S) ∧ C.Perm (A ++ B) ∧ C.Pairwise lx) ∧ w.grownBy w2 (some g) := fun w2 h => by
      refine ⟨⟨A.take (i - a) ++ y :: A.drop (i - a), by rw [← List.append_assoc]; exact h.env, ?_, one_right (by rw [List.take_append_drop]; exact hA) (fun z hz => ?_) (fun z hz => ?_) (fun z hz => ?_)⟩, h.grown⟩
      · rw [hy]
        refine List.perm_middle.trans ?_
        rw [List.take_append_drop]; exact (List.perm_append_singleton y A).symm
      · rw [List.take_append_drop] at hz
        exact hAB z hz y (by rw [hy]; simp)
      · obtain ⟨t, t1, t2, t3, t4⟩ := mem_take_mid (P := P) (R := B ++ S) hz
        rw [← lA] at t4
        have := h4 t (by omega) (by omega)
        omega
      · obtain ⟨t, t1, t3, t4⟩ := mem_drop_mid (P := P) (R := B ++ S) hz
        rw [← lA] at t4
        have := h5 t (by omega) (by omega)
        omega
    refine WC.cut (α := Unit) (fun _ => []) (fun _ w2 => (∃ C, Env g q n cap w2 (P ++ C ++ S) ∧ C.Perm (A ++ B) ∧ C.Pairwise lx) ∧ w.grownBy w2 (some g)) ?_ ?_
    · refine WC.seq (WC.region ?_)
      repeat (first | (refine WL.val ?_ ?_ (Runs.move rfl) ?_; rfl; rfl) | (refine WL.val ?_ ?_ (Runs.assign rfl) ?_; rfl; rfl) | (refine WL.val ?_ ?_ (Runs.extract rfl rfl) ?_; rfl; rfl) | (refine WL.val ?_ ?_ (Runs.nilCheck rfl) ?_; rfl; rfl) | (refine WL.val ?_ ?_ (Runs.pickT rfl rfl) ?_; rfl; rfl) | (refine WL.val ?_ ?_ (Runs.pickF rfl rfl) ?_; rfl; rfl) | (refine WL.val ?_ ?_ (Runs.len rfl sl22) ?_; rfl; rfl) | (refine WL.val ?_ ?_ (Runs.len rfl sl27) ?_; rfl; rfl) | (refine WL.val ?_ ?_ (Runs.len rfl sl37) ?_; rfl; rfl) | (refine WL.pass ?_ ?_ ?_; rfl; rfl))
      refine WL.nil ?_
      repeat (first | refine AtExit.thenRet ?_ | refine AtExit.thenExit ?_ | refine AtExit.blockRet ?_ | refine AtExit.blockEnd ?_ | refine AtExit.blockExit ?_ | (refine AtExit.blockPast ?_ ?_; rfl))
      refine AtExit.go ?_
      refine WC.block ?_
      refine WC.loop (α := Nat) (fun c => [(4, .pointer (some ⟨D, 0, none⟩)), (12, .int .i64 (i : Int)), (15, .int .i64 ((a + c : Nat) : Int))])
        (fun c w' => i - a ≤ c ∧ c ≤ A.length ∧ St g q n cap D w w' (P ++ A.take c ++ y :: A.drop c ++ S)) (fun c => c) A.length (by rw [← hm]; exact (by repeat (first | exact Sub.nil _ | refine Sub.cons rfl ?_))) ⟨by omega, Nat.le_refl _, by
          have e : P ++ A.take A.length ++ y :: A.drop A.length ++ S = l := by rw [lB, hy]; simp
          rw [e]; exact hs⟩ ?_
      clear hs
      rintro c w' ⟨hc, hc2, hs⟩
      refine WC.seq ?_
      refine WC.seq (WC.region ?_)
      repeat (first | (refine WL.val ?_ ?_ (Runs.move rfl) ?_; rfl; rfl) | (refine WL.val ?_ ?_ (Runs.assign rfl) ?_; rfl; rfl) | (refine WL.val ?_ ?_ (Runs.extract rfl rfl) ?_; rfl; rfl) | (refine WL.val ?_ ?_ (Runs.nilCheck rfl) ?_; rfl; rfl) | (refine WL.val ?_ ?_ (Runs.pickT rfl rfl) ?_; rfl; rfl) | (refine WL.val ?_ ?_ (Runs.pickF rfl rfl) ?_; rfl; rfl) | (refine WL.val ?_ ?_ (Runs.len rfl sl22) ?_; rfl; rfl) | (refine WL.val ?_ ?_ (Runs.len rfl sl27) ?_; rfl; rfl) | (refine WL.val ?_ ?_ (Runs.len rfl sl37) ?_; rfl; rfl) | (refine WL.pass ?_ ?_ ?_; rfl; rfl))
      by_cases hci : i < a + c
      · refine WL.val rfl rfl (Runs.gtr rfl rfl (declt hci)) ?_
        refine WL.nil ?_
        repeat (first | refine AtExit.thenRet ?_ | refine AtExit.thenExit ?_ | refine AtExit.blockRet ?_ | refine AtExit.blockEnd ?_ | refine AtExit.blockExit ?_ | (refine AtExit.blockPast ?_ ?_; rfl))
        refine AtExit.go ?_
        refine WC.condT rfl ?_
        refine WC.skip ?_
        repeat (first | refine AtExit.thenRet ?_ | refine AtExit.thenExit ?_ | refine AtExit.blockRet ?_ | refine AtExit.blockEnd ?_ | refine AtExit.blockExit ?_ | (refine AtExit.blockPast ?_ ?_; rfl))
        refine AtExit.go ?_
        refine WC.seq (WC.block ?_)
        obtain ⟨c', rfl⟩ : ∃ c', c = c' + 1 := ⟨c - 1, by omega⟩
        obtain ⟨z, hz⟩ := get_some (V := A) (i := c') (by omega)
        have e1 : P ++ A.take (c' + 1) ++ y :: A.drop (c' + 1) ++ S = (P ++ A.take c') ++ z :: [] ++ y :: (A.drop (c' + 1) ++ S) := by rw [take_one hz]; simp
        have e2 : P ++ A.take c' ++ y :: A.drop c' ++ S = (P ++ A.take c') ++ y :: [] ++ z :: (A.drop (c' + 1) ++ S) := by rw [drop_one hz]; simp
        have hs' := hs
        rw [e1] at hs'
        have l1 : a + c' = (P ++ A.take c').length := by rw [List.length_append, List.length_take]; omega
        have l2 : a + (c' + 1) = (P ++ A.take c').length + 1 + ([] : List Rc).length := by rw [List.length_append, List.length_take, List.length_nil]; omega
        obtain ⟨w4, hrun, hE4, hg4⟩ := swap_run hs'.env (i := a + (c' + 1)) (j := a + c') (x := y) (y := z) (by
          rw [l2]
          have := get_at (P ++ A.take c' ++ [z]) y (A.drop (c' + 1) ++ S)
          rw [List.length_append] at this
          simpa using this) (by rw [l1, List.append_assoc, List.cons_append]; exact get_at _ _ _)
        rw [swap_split' _ _ _ _ _ _ _ l1 l2, ← e2] at hE4
        refine WC.region ?_
        refine WL.val rfl rfl (Runs.fld rfl fl57_1) ?_
        refine WL.val rfl rfl (Runs.load rfl na53 hs.c1) ?_
        repeat (first | (refine WL.val ?_ ?_ (Runs.move rfl) ?_; rfl; rfl) | (refine WL.val ?_ ?_ (Runs.assign rfl) ?_; rfl; rfl) | (refine WL.val ?_ ?_ (Runs.extract rfl rfl) ?_; rfl; rfl) | (refine WL.val ?_ ?_ (Runs.nilCheck rfl) ?_; rfl; rfl) | (refine WL.val ?_ ?_ (Runs.pickT rfl rfl) ?_; rfl; rfl) | (refine WL.val ?_ ?_ (Runs.pickF rfl rfl) ?_; rfl; rfl) | (refine WL.val ?_ ?_ (Runs.len rfl sl22) ?_; rfl; rfl) | (refine WL.val ?_ ?_ (Runs.len rfl sl27) ?_; rfl; rfl) | (refine WL.val ?_ ?_ (Runs.len rfl sl37) ?_; rfl; rfl) | (refine WL.pass ?_ ?_ ?_; rfl; rfl))
        refine WL.val rfl rfl (Runs.sub rfl rfl (r := ((a + c' : Nat) : Int)) (wI (by omega) (by omega) (by omega))) ?_
        refine WL.val rfl rfl (Runs.callX rfl rfl hrun) ?_
        refine WL.nil ?_
        repeat (first | refine AtExit.thenRet ?_ | refine AtExit.thenExit ?_ | refine AtExit.blockRet ?_ | refine AtExit.blockEnd ?_ | refine AtExit.blockExit ?_ | (refine AtExit.blockPast ?_ ?_; rfl))
        refine AtExit.go ?_
        refine WC.region ?_
        repeat (first | (refine WL.val ?_ ?_ (Runs.move rfl) ?_; rfl; rfl) | (refine WL.val ?_ ?_ (Runs.assign rfl) ?_; rfl; rfl) | (refine WL.val ?_ ?_ (Runs.extract rfl rfl) ?_; rfl; rfl) | (refine WL.val ?_ ?_ (Runs.nilCheck rfl) ?_; rfl; rfl) | (refine WL.val ?_ ?_ (Runs.pickT rfl rfl) ?_; rfl; rfl) | (refine WL.val ?_ ?_ (Runs.pickF rfl rfl) ?_; rfl; rfl) | (refine WL.val ?_ ?_ (Runs.len rfl sl22) ?_; rfl; rfl) | (refine WL.val ?_ ?_ (Runs.len rfl sl27) ?_; rfl; rfl) | (refine WL.val ?_ ?_ (Runs.len rfl sl37) ?_; rfl; rfl) | (refine WL.pass ?_ ?_ ?_; rfl; rfl))
        refine WL.val rfl rfl (Runs.sub rfl rfl (r := ((a + c' : Nat) : Int)) (wI (by omega) (by omega) (by omega))) ?_
        repeat (first | (refine WL.val ?_ ?_ (Runs.move rfl) ?_; rfl; rfl) | (refine WL.val ?_ ?_ (Runs.assign rfl) ?_; rfl; rfl) | (refine WL.val ?_ ?_ (Runs.extract rfl rfl) ?_; rfl; rfl) | (refine WL.val ?_ ?_ (Runs.nilCheck rfl) ?_; rfl; rfl) | (refine WL.val ?_ ?_ (Runs.pickT rfl rfl) ?_; rfl; rfl) | (refine WL.val ?_ ?_ (Runs.pickF rfl rfl) ?_; rfl; rfl) | (refine WL.val ?_ ?_ (Runs.len rfl sl22) ?_; rfl; rfl) | (refine WL.val ?_ ?_ (Runs.len rfl sl27) ?_; rfl; rfl) | (refine WL.val ?_ ?_ (Runs.len rfl sl37) ?_; rfl; rfl) | (refine WL.pass ?_ ?_ ?_; rfl; rfl))
        refine WL.nil ?_
        repeat (first | refine AtExit.thenRet ?_ | refine AtExit.thenExit ?_ | refine AtExit.blockRet ?_ | refine AtExit.blockEnd ?_ | refine AtExit.blockExit ?_ | (refine AtExit.blockPast ?_ ?_; rfl))
        refine AtExit.inv fun a ha => ⟨c', ha.sub (by repeat (first | exact Sub.nil _ | refine Sub.cons rfl ?_)), ⟨by omega, by omega, hs.call hE4 hg4⟩, by omega⟩
      · refine WL.val rfl rfl (Runs.gtr rfl rfl (decge hci)) ?_
        refine WL.nil ?_
        repeat (first | refine AtExit.thenRet ?_ | refine AtExit.thenExit ?_ | refine AtExit.blockRet ?_ | refine AtExit.blockEnd ?_ | refine AtExit.blockExit ?_ | (refine AtExit.blockPast ?_ ?_; rfl))
        refine AtExit.go ?_
        refine WC.condF rfl ?_
        have : c = i - a := by omega
        subst this
        refine WC.exit ?_
        repeat (first | refine AtExit.thenRet ?_ | refine AtExit.thenExit ?_ | refine AtExit.blockRet ?_ | refine AtExit.blockEnd ?_ | refine AtExit.blockExit ?_ | (refine AtExit.blockPast ?_ ?_; rfl))
        refine AtExit.inv fun a ha => ⟨(), ha.sub (Sub.nil _), fin _ hs⟩
    rintro _ w2 h
    refine WC.ret ?_
    repeat (first | refine AtExit.thenRet ?_ | refine AtExit.thenExit ?_ | refine AtExit.blockRet ?_ | refine AtExit.blockEnd ?_ | refine AtExit.blockExit ?_ | (refine AtExit.blockPast ?_ ?_; rfl))
    exact post0 rfl ⟨rfl, h.1, h.2⟩
  refine WL.val rfl rfl (Runs.eql rfl rfl (r := false) (dfalse (by omega))) ?_
  refine WL.nil ?_
  repeat (first | refine AtExit.thenRet ?_ | refine AtExit.thenExit ?_ | refine AtExit.blockRet ?_ | refine AtExit.blockEnd ?_ | refine AtExit.blockExit ?_ | (refine AtExit.blockPast ?_ ?_; rfl))
  refine AtExit.go ?_
  refine WC.condF rfl ?_
  refine WC.skip ?_
  repeat (first | refine AtExit.thenRet ?_ | refine AtExit.thenExit ?_ | refine AtExit.blockRet ?_ | refine AtExit.blockEnd ?_ | refine AtExit.blockExit ?_ | (refine AtExit.blockPast ?_ ?_; rfl))
  refine AtExit.go ?_
  refine WC.seq (WC.region ?_)
  repeat (first | (refine WL.val ?_ ?_ (Runs.move rfl) ?_; rfl; rfl) | (refine WL.val ?_ ?_ (Runs.assign rfl) ?_; rfl; rfl) | (refine WL.val ?_ ?_ (Runs.extract rfl rfl) ?_; rfl; rfl) | (refine WL.val ?_ ?_ (Runs.nilCheck rfl) ?_; rfl; rfl) | (refine WL.val ?_ ?_ (Runs.pickT rfl rfl) ?_; rfl; rfl) | (refine WL.val ?_ ?_ (Runs.pickF rfl rfl) ?_; rfl; rfl) | (refine WL.val ?_ ?_ (Runs.len rfl sl22) ?_; rfl; rfl) | (refine WL.val ?_ ?_ (Runs.len rfl sl27) ?_; rfl; rfl) | (refine WL.val ?_ ?_ (Runs.len rfl sl37) ?_; rfl; rfl) | (refine WL.pass ?_ ?_ ?_; rfl; rfl))
  refine WL.val rfl rfl (Runs.add rfl rfl (r := ((a + b : Nat) : Int)) (wI (by omega) (by omega) (by omega))) ?_
  refine WL.val rfl rfl (Runs.conv rfl (by rw [Yba.underlying3]; rfl) Yba.underlying60 (wU (by omega) (by omega))) ?_
  refine WL.val rfl rfl (Runs.shr rfl rfl (by decide) (shr1 (a + b))) ?_
  refine WL.val rfl rfl (Runs.conv rfl (by rw [Yba.underlying60]; rfl) Yba.underlying3 (wI rfl (by omega) (by omega))) ?_
  repeat (first | (refine WL.val ?_ ?_ (Runs.move rfl) ?_; rfl; rfl) | (refine WL.val ?_ ?_ (Runs.assign rfl) ?_; rfl; rfl) | (refine WL.val ?_ ?_ (Runs.extract rfl rfl) ?_; rfl; rfl) | (refine WL.val ?_ ?_ (Runs.nilCheck rfl) ?_; rfl; rfl) | (refine WL.val ?_ ?_ (Runs.pickT rfl rfl) ?_; rfl; rfl) | (refine WL.val ?_ ?_ (Runs.pickF rfl rfl) ?_; rfl; rfl) | (refine WL.val ?_ ?_ (Runs.len rfl sl22) ?_; rfl; rfl) | (refine WL.val ?_ ?_ (Runs.len rfl sl27) ?_; rfl; rfl) | (refine WL.val ?_ ?_ (Runs.len rfl sl37) ?_; rfl; rfl) | (refine WL.pass ?_ ?_ ?_; rfl; rfl))
  refine WL.nil ?_
  repeat (first | refine AtExit.thenRet ?_ | refine AtExit.thenExit ?_ | refine AtExit.blockRet ?_ | refine AtExit.blockEnd ?_ | refine AtExit.blockExit ?_ | (refine AtExit.blockPast ?_ ?_; rfl))
  refine AtExit.go ?_
  obtain ⟨M, hM⟩ : ∃ M, M = (a + b) / 2 := ⟨_, rfl⟩
  rw [← hM]
  refine WC.seq (WC.region ?_)
  repeat (first | (refine WL.val ?_ ?_ (Runs.move rfl) ?_; rfl; rfl) | (refine WL.val ?_ ?_ (Runs.assign rfl) ?_; rfl; rfl) | (refine WL.val ?_ ?_ (Runs.extract rfl rfl) ?_; rfl; rfl) | (refine WL.val ?_ ?_ (Runs.nilCheck rfl) ?_; rfl; rfl) | (refine WL.val ?_ ?_ (Runs.pickT rfl rfl) ?_; rfl; rfl) | (refine WL.val ?_ ?_ (Runs.pickF rfl rfl) ?_; rfl; rfl) | (refine WL.val ?_ ?_ (Runs.len rfl sl22) ?_; rfl; rfl) | (refine WL.val ?_ ?_ (Runs.len rfl sl27) ?_; rfl; rfl) | (refine WL.val ?_ ?_ (Runs.len rfl sl37) ?_; rfl; rfl) | (refine WL.pass ?_ ?_ ?_; rfl; rfl))
  refine WL.val rfl rfl (Runs.add rfl rfl (r := ((M + m : Nat) : Int)) (wI (by omega) (by omega) (by omega))) ?_
  repeat (first | (refine WL.val ?_ ?_ (Runs.move rfl) ?_; rfl; rfl) | (refine WL.val ?_ ?_ (Runs.assign rfl) ?_; rfl; rfl) | (refine WL.val ?_ ?_ (Runs.extract rfl rfl) ?_; rfl; rfl) | (refine WL.val ?_ ?_ (Runs.nilCheck rfl) ?_; rfl; rfl) | (refine WL.val ?_ ?_ (Runs.pickT rfl rfl) ?_; rfl; rfl) | (refine WL.val ?_ ?_ (Runs.pickF rfl rfl) ?_; rfl; rfl) | (refine WL.val ?_ ?_ (Runs.len rfl sl22) ?_; rfl; rfl) | (refine WL.val ?_ ?_ (Runs.len rfl sl27) ?_; rfl; rfl) | (refine WL.val ?_ ?_ (Runs.len rfl sl37) ?_; rfl; rfl) | (refine WL.pass ?_ ?_ ?_; rfl; rfl))
  refine WL.nil ?_
  repeat (first | refine AtExit.thenRet ?_ | refine AtExit.thenExit ?_ | refine AtExit.blockRet ?_ | refine AtExit.blockEnd ?_ | refine AtExit.blockExit ?_ | (refine AtExit.blockPast ?_ ?_; rfl))
  refine AtExit.go ?_
  refine WC.seq (WC.region ?_)
  repeat (first | (refine WL.val ?_ ?_ (Runs.move rfl) ?_; rfl; rfl) | (refine WL.val ?_ ?_ (Runs.assign rfl) ?_; rfl; rfl) | (refine WL.val ?_ ?_ (Runs.extract rfl rfl) ?_; rfl; rfl) | (refine WL.val ?_ ?_ (Runs.nilCheck rfl) ?_; rfl; rfl) | (refine WL.val ?_ ?_ (Runs.pickT rfl rfl) ?_; rfl; rfl) | (refine WL.val ?_ ?_ (Runs.pickF rfl rfl) ?_; rfl; rfl) | (refine WL.val ?_ ?_ (Runs.len rfl sl22) ?_; rfl; rfl) | (refine WL.val ?_ ?_ (Runs.len rfl sl27) ?_; rfl; rfl) | (refine WL.val ?_ ?_ (Runs.len rfl sl37) ?_; rfl; rfl) | (refine WL.pass ?_ ?_ ?_; rfl; rfl))
  refine WL.nil ?_
  repeat (first | refine AtExit.thenRet ?_ | refine AtExit.thenExit ?_ | refine AtExit.blockRet ?_ | refine AtExit.blockEnd ?_ | refine AtExit.blockExit ?_ | (refine AtExit.blockPast ?_ ?_; rfl))
  refine AtExit.go ?_
  refine WC.cut (α := Nat × Nat) (fun | (lo, hi) => [(1, .int .i64 (a : Int)), (2, .int .i64 (m : Int)), (3, .int .i64 (b : Int)), (4, .pointer (some ⟨D, 0, none⟩)), (16, .int .i64 (M : Int)), (17, .int .i64 ((M + m : Nat) : Int)), (18, .int .i64 (lo : Int)), (19, .int .i64 (hi : Int))])
    (fun | (lo, hi) => fun w' => w' = w1 ∧ a ≤ lo ∧ lo ≤ hi ∧ hi ≤ m ∧ hi ≤ M ∧ M + m ≤ b + lo ∧ (lo = a ∨ M + m = b + lo) ∧ (hi = m ∨ hi = M)) ?_ ?_
  · refine WC.seq (WC.region ?_)
    repeat (first | (refine WL.val ?_ ?_ (Runs.move rfl) ?_; rfl; rfl) | (refine WL.val ?_ ?_ (Runs.assign rfl) ?_; rfl; rfl) | (refine WL.val ?_ ?_ (Runs.extract rfl rfl) ?_; rfl; rfl) | (refine WL.val ?_ ?_ (Runs.nilCheck rfl) ?_; rfl; rfl) | (refine WL.val ?_ ?_ (Runs.pickT rfl rfl) ?_; rfl; rfl) | (refine WL.val ?_ ?_ (Runs.pickF rfl rfl) ?_; rfl; rfl) | (refine WL.val ?_ ?_ (Runs.len rfl sl22) ?_; rfl; rfl) | (refine WL.val ?_ ?_ (Runs.len rfl sl27) ?_; rfl; rfl) | (refine WL.val ?_ ?_ (Runs.len rfl sl37) ?_; rfl; rfl) | (refine WL.pass ?_ ?_ ?_; rfl; rfl))
    by_cases hmM : M < m
    · refine WL.val rfl rfl (Runs.gtr rfl rfl (declt hmM)) ?_
      refine WL.nil ?_
      repeat (first | refine AtExit.thenRet ?_ | refine AtExit.thenExit ?_ | refine AtExit.blockRet ?_ | refine AtExit.blockEnd ?_ | refine AtExit.blockExit ?_ | (refine AtExit.blockPast ?_ ?_; rfl))
      refine AtExit.go ?_
      refine WC.condT rfl ?_
      refine WC.seq (WC.region ?_)
      repeat (first | (refine WL.val ?_ ?_ (Runs.move rfl) ?_; rfl; rfl) | (refine WL.val ?_ ?_ (Runs.assign rfl) ?_; rfl; rfl) | (refine WL.val ?_ ?_ (Runs.extract rfl rfl) ?_; rfl; rfl) | (refine WL.val ?_ ?_ (Runs.nilCheck rfl) ?_; rfl; rfl) | (refine WL.val ?_ ?_ (Runs.pickT rfl rfl) ?_; rfl; rfl) | (refine WL.val ?_ ?_ (Runs.pickF rfl rfl) ?_; rfl; rfl) | (refine WL.val ?_ ?_ (Runs.len rfl sl22) ?_; rfl; rfl) | (refine WL.val ?_ ?_ (Runs.len rfl sl27) ?_; rfl; rfl) | (refine WL.val ?_ ?_ (Runs.len rfl sl37) ?_; rfl; rfl) | (refine WL.pass ?_ ?_ ?_; rfl; rfl))
      refine WL.val rfl rfl (Runs.sub rfl rfl (r := ((M + m - b : Nat) : Int)) (wI (by omega) (by omega) (by omega))) ?_
      repeat (first | (refine WL.val ?_ ?_ (Runs.move rfl) ?_; rfl; rfl) | (refine WL.val ?_ ?_ (Runs.assign rfl) ?_; rfl; rfl) | (refine WL.val ?_ ?_ (Runs.extract rfl rfl) ?_; rfl; rfl) | (refine WL.val ?_ ?_ (Runs.nilCheck rfl) ?_; rfl; rfl) | (refine WL.val ?_ ?_ (Runs.pickT rfl rfl) ?_; rfl; rfl) | (refine WL.val ?_ ?_ (Runs.pickF rfl rfl) ?_; rfl; rfl) | (refine WL.val ?_ ?_ (Runs.len rfl sl22) ?_; rfl; rfl) | (refine WL.val ?_ ?_ (Runs.len rfl sl27) ?_; rfl; rfl) | (refine WL.val ?_ ?_ (Runs.len rfl sl37) ?_; rfl; rfl) | (refine WL.pass ?_ ?_ ?_; rfl; rfl))
      refine WL.nil ?_
      repeat (first | refine AtExit.thenRet ?_ | refine AtExit.thenExit ?_ | refine AtExit.blockRet ?_ | refine AtExit.blockEnd ?_ | refine AtExit.blockExit ?_ | (refine AtExit.blockPast ?_ ?_; rfl))
      refine AtExit.go ?_
      refine WC.region ?_
      repeat (first | (refine WL.val ?_ ?_ (Runs.move rfl) ?_; rfl; rfl) | (refine WL.val ?_ ?_ (Runs.assign rfl) ?_; rfl; rfl) | (refine WL.val ?_ ?_ (Runs.extract rfl rfl) ?_; rfl; rfl) | (refine WL.val ?_ ?_ (Runs.nilCheck rfl) ?_; rfl; rfl) | (refine WL.val ?_ ?_ (Runs.pickT rfl rfl) ?_; rfl; rfl) | (refine WL.val ?_ ?_ (Runs.pickF rfl rfl) ?_; rfl; rfl) | (refine WL.val ?_ ?_ (Runs.len rfl sl22) ?_; rfl; rfl) | (refine WL.val ?_ ?_ (Runs.len rfl sl27) ?_; rfl; rfl) | (refine WL.val ?_ ?_ (Runs.len rfl sl37) ?_; rfl; rfl) | (refine WL.pass ?_ ?_ ?_; rfl; rfl))
      refine WL.nil ?_
      repeat (first | refine AtExit.thenRet ?_ | refine AtExit.thenExit ?_ | refine AtExit.blockRet ?_ | refine AtExit.blockEnd ?_ | refine AtExit.blockExit ?_ | (refine AtExit.blockPast ?_ ?_; rfl))
      refine AtExit.inv fun a ha => ⟨(M + m - b, M), ha.sub (by repeat (first | exact Sub.nil _ | refine Sub.cons rfl ?_)), rfl, by omega, by omega, by omega, by omega, by omega, by omega, by omega⟩
    · refine WL.val rfl rfl (Runs.gtr rfl rfl (decge hmM)) ?_
      refine WL.nil ?_
      repeat (first | refine AtExit.thenRet ?_ | refine AtExit.thenExit ?_ | refine AtExit.blockRet ?_ | refine AtExit.blockEnd ?_ | refine AtExit.blockExit ?_ | (refine AtExit.blockPast ?_ ?_; rfl))
      refine AtExit.go ?_
      refine WC.condF rfl ?_
      refine WC.seq (WC.region ?_)
      repeat (first | (refine WL.val ?_ ?_ (Runs.move rfl) ?_; rfl; rfl) | (refine WL.val ?_ ?_ (Runs.assign rfl) ?_; rfl; rfl) | (refine WL.val ?_ ?_ (Runs.extract rfl rfl) ?_; rfl; rfl) | (refine WL.val ?_ ?_ (Runs.nilCheck rfl) ?_; rfl; rfl) | (refine WL.val ?_ ?_ (Runs.pickT rfl rfl) ?_; rfl; rfl) | (refine WL.val ?_ ?_ (Runs.pickF rfl rfl) ?_; rfl; rfl) | (refine WL.val ?_ ?_ (Runs.len rfl sl22) ?_; rfl; rfl) | (refine WL.val ?_ ?_ (Runs.len rfl sl27) ?_; rfl; rfl) | (refine WL.val ?_ ?_ (Runs.len rfl sl37) ?_; rfl; rfl) | (refine WL.pass ?_ ?_ ?_; rfl; rfl))
      refine WL.nil ?_
      repeat (first | refine AtExit.thenRet ?_ | refine AtExit.thenExit ?_ | refine AtExit.blockRet ?_ | refine AtExit.blockEnd ?_ | refine AtExit.blockExit ?_ | (refine AtExit.blockPast ?_ ?_; rfl))
      refine AtExit.go ?_
      refine WC.region ?_
      repeat (first | (refine WL.val ?_ ?_ (Runs.move rfl) ?_; rfl; rfl) | (refine WL.val ?_ ?_ (Runs.assign rfl) ?_; rfl; rfl) | (refine WL.val ?_ ?_ (Runs.extract rfl rfl) ?_; rfl; rfl) | (refine WL.val ?_ ?_ (Runs.nilCheck rfl) ?_; rfl; rfl) | (refine WL.val ?_ ?_ (Runs.pickT rfl rfl) ?_; rfl; rfl) | (refine WL.val ?_ ?_ (Runs.pickF rfl rfl) ?_; rfl; rfl) | (refine WL.val ?_ ?_ (Runs.len rfl sl22) ?_; rfl; rfl) | (refine WL.val ?_ ?_ (Runs.len rfl sl27) ?_; rfl; rfl) | (refine WL.val ?_ ?_ (Runs.len rfl sl37) ?_; rfl; rfl) | (refine WL.pass ?_ ?_ ?_; rfl; rfl))
      refine WL.nil ?_
      repeat (first | refine AtExit.thenRet ?_ | refine AtExit.thenExit ?_ | refine AtExit.blockRet ?_ | refine AtExit.blockEnd ?_ | refine AtExit.blockExit ?_ | (refine AtExit.blockPast ?_ ?_; rfl))
      refine AtExit.inv fun av hv => ⟨(a, m), hv.sub (by repeat (first | exact Sub.nil _ | refine Sub.cons rfl ?_)), rfl, by omega, by omega, by omega, by omega, by omega, by omega, by omega⟩
  rintro ⟨lo0, hi0⟩ w2 ⟨rfl, f1, f2, f3, f4, f5, f6, f7⟩
  refine WC.seq (WC.region ?_)
  repeat (first | (refine WL.val ?_ ?_ (Runs.move rfl) ?_; rfl; rfl) | (refine WL.val ?_ ?_ (Runs.assign rfl) ?_; rfl; rfl) | (refine WL.val ?_ ?_ (Runs.extract rfl rfl) ?_; rfl; rfl) | (refine WL.val ?_ ?_ (Runs.nilCheck rfl) ?_; rfl; rfl) | (refine WL.val ?_ ?_ (Runs.pickT rfl rfl) ?_; rfl; rfl) | (refine WL.val ?_ ?_ (Runs.pickF rfl rfl) ?_; rfl; rfl) | (refine WL.val ?_ ?_ (Runs.len rfl sl22) ?_; rfl; rfl) | (refine WL.val ?_ ?_ (Runs.len rfl sl27) ?_; rfl; rfl) | (refine WL.val ?_ ?_ (Runs.len rfl sl37) ?_; rfl; rfl) | (refine WL.pass ?_ ?_ ?_; rfl; rfl))
  refine WL.val rfl rfl (Runs.sub rfl rfl (r := ((M + m - 1 : Nat) : Int)) (wI (by omega) (by omega) (by omega))) ?_
  repeat (first | (refine WL.val ?_ ?_ (Runs.move rfl) ?_; rfl; rfl) | (refine WL.val ?_ ?_ (Runs.assign rfl) ?_; rfl; rfl) | (refine WL.val ?_ ?_ (Runs.extract rfl rfl) ?_; rfl; rfl) | (refine WL.val ?_ ?_ (Runs.nilCheck rfl) ?_; rfl; rfl) | (refine WL.val ?_ ?_ (Runs.pickT rfl rfl) ?_; rfl; rfl) | (refine WL.val ?_ ?_ (Runs.pickF rfl rfl) ?_; rfl; rfl) | (refine WL.val ?_ ?_ (Runs.len rfl sl22) ?_; rfl; rfl) | (refine WL.val ?_ ?_ (Runs.len rfl sl27) ?_; rfl; rfl) | (refine WL.val ?_ ?_ (Runs.len rfl sl37) ?_; rfl; rfl) | (refine WL.pass ?_ ?_ ?_; rfl; rfl))
  refine WL.nil ?_
  repeat (first | refine AtExit.thenRet ?_ | refine AtExit.thenExit ?_ | refine AtExit.blockRet ?_ | refine AtExit.blockEnd ?_ | refine AtExit.blockExit ?_ | (refine AtExit.blockPast ?_ ?_; rfl))
  refine AtExit.go ?_
  refine WC.cut (α := Nat) (fun s => [(1, .int .i64 (a : Int)), (2, .int .i64 (m : Int)), (3, .int .i64 (b : Int)), (4, .pointer (some ⟨D, 0, none⟩)), (16, .int .i64 (M : Int)), (17, .int .i64 ((M + m : Nat) : Int)), (18, .int .i64 (s : Int))])
    (fun s w' => lo0 ≤ s ∧ s ≤ hi0 ∧ (∀ t, lo0 ≤ t → t < s → ¬ dayI l (M + m - 1 - t) < dayI l t) ∧ (∀ t, s ≤ t → t < hi0 → dayI l (M + m - 1 - t) < dayI l t) ∧ St g q n cap D w w' l) ?_ ?_
  · refine WC.block ?_
    refine WC.loop (α := Nat × Nat) (fun | (lo, hi) => [(1, .int .i64 (a : Int)), (2, .int .i64 (m : Int)), (3, .int .i64 (b : Int)), (4, .pointer (some ⟨D, 0, none⟩)), (16, .int .i64 (M : Int)), (17, .int .i64 ((M + m : Nat) : Int)), (18, .int .i64 (lo : Int)), (19, .int .i64 (hi : Int)), (20, .int .i64 ((M + m - 1 : Nat) : Int))])
      (fun | (lo, hi) => fun w' => lo0 ≤ lo ∧ lo ≤ hi ∧ hi ≤ hi0 ∧ (∀ t, lo0 ≤ t → t < lo → ¬ dayI l (M + m - 1 - t) < dayI l t) ∧ (∀ t, hi ≤ t → t < hi0 → dayI l (M + m - 1 - t) < dayI l t) ∧ St g q n cap D w w' l) (fun | (lo, hi) => hi - lo) (lo0, hi0) (by repeat (first | exact Sub.nil _ | refine Sub.cons rfl ?_))
      ⟨Nat.le_refl _, f2, Nat.le_refl _, fun t h1 h2 => by omega, fun t h1 h2 => by omega, hst⟩ ?_
    rintro ⟨lo, hi⟩ w' ⟨h1, h2, h3, h4, h5, hs⟩
    refine WC.seq ?_
    refine WC.seq (WC.region ?_)
    repeat (first | (refine WL.val ?_ ?_ (Runs.move rfl) ?_; rfl; rfl) | (refine WL.val ?_ ?_ (Runs.assign rfl) ?_; rfl; rfl) | (refine WL.val ?_ ?_ (Runs.extract rfl rfl) ?_; rfl; rfl) | (refine WL.val ?_ ?_ (Runs.nilCheck rfl) ?_; rfl; rfl) | (refine WL.val ?_ ?_ (Runs.pickT rfl rfl) ?_; rfl; rfl) | (refine WL.val ?_ ?_ (Runs.pickF rfl rfl) ?_; rfl; rfl) | (refine WL.val ?_ ?_ (Runs.len rfl sl22) ?_; rfl; rfl) | (refine WL.val ?_ ?_ (Runs.len rfl sl27) ?_; rfl; rfl) | (refine WL.val ?_ ?_ (Runs.len rfl sl37) ?_; rfl; rfl) | (refine WL.pass ?_ ?_ ?_; rfl; rfl))
    by_cases hij : lo < hi
    · refine WL.val rfl rfl (Runs.lss rfl rfl (declt hij)) ?_
      refine WL.nil ?_
      repeat (first | refine AtExit.thenRet ?_ | refine AtExit.thenExit ?_ | refine AtExit.blockRet ?_ | refine AtExit.blockEnd ?_ | refine AtExit.blockExit ?_ | (refine AtExit.blockPast ?_ ?_; rfl))
      refine AtExit.go ?_
      refine WC.condT rfl ?_
      refine WC.skip ?_
      repeat (first | refine AtExit.thenRet ?_ | refine AtExit.thenExit ?_ | refine AtExit.blockRet ?_ | refine AtExit.blockEnd ?_ | refine AtExit.blockExit ?_ | (refine AtExit.blockPast ?_ ?_; rfl))
      refine AtExit.go ?_
      refine WC.block ?_
      refine WC.seq (WC.region ?_)
      repeat (first | (refine WL.val ?_ ?_ (Runs.move rfl) ?_; rfl; rfl) | (refine WL.val ?_ ?_ (Runs.assign rfl) ?_; rfl; rfl) | (refine WL.val ?_ ?_ (Runs.extract rfl rfl) ?_; rfl; rfl) | (refine WL.val ?_ ?_ (Runs.nilCheck rfl) ?_; rfl; rfl) | (refine WL.val ?_ ?_ (Runs.pickT rfl rfl) ?_; rfl; rfl) | (refine WL.val ?_ ?_ (Runs.pickF rfl rfl) ?_; rfl; rfl) | (refine WL.val ?_ ?_ (Runs.len rfl sl22) ?_; rfl; rfl) | (refine WL.val ?_ ?_ (Runs.len rfl sl27) ?_; rfl; rfl) | (refine WL.val ?_ ?_ (Runs.len rfl sl37) ?_; rfl; rfl) | (refine WL.pass ?_ ?_ ?_; rfl; rfl))
      refine WL.val rfl rfl (Runs.add rfl rfl (r := ((lo + hi : Nat) : Int)) (wI (by omega) (by omega) (by omega))) ?_
      refine WL.val rfl rfl (Runs.conv rfl (by rw [Yba.underlying3]; rfl) Yba.underlying60 (wU (by omega) (by omega))) ?_
      refine WL.val rfl rfl (Runs.shr rfl rfl (by decide) (shr1 (lo + hi))) ?_
      refine WL.val rfl rfl (Runs.conv rfl (by rw [Yba.underlying60]; rfl) Yba.underlying3 (wI rfl (by omega) (by omega))) ?_
      repeat (first | (refine WL.val ?_ ?_ (Runs.move rfl) ?_; rfl; rfl) | (refine WL.val ?_ ?_ (Runs.assign rfl) ?_; rfl; rfl) | (refine WL.val ?_ ?_ (Runs.extract rfl rfl) ?_; rfl; rfl) | (refine WL.val ?_ ?_ (Runs.nilCheck rfl) ?_; rfl; rfl) | (refine WL.val ?_ ?_ (Runs.pickT rfl rfl) ?_; rfl; rfl) | (refine WL.val ?_ ?_ (Runs.pickF rfl rfl) ?_; rfl; rfl) | (refine WL.val ?_ ?_ (Runs.len rfl sl22) ?_; rfl; rfl) | (refine WL.val ?_ ?_ (Runs.len rfl sl27) ?_; rfl; rfl) | (refine WL.val ?_ ?_ (Runs.len rfl sl37) ?_; rfl; rfl) | (refine WL.pass ?_ ?_ ?_; rfl; rfl))
      refine WL.nil ?_
      repeat (first | refine AtExit.thenRet ?_ | refine AtExit.thenExit ?_ | refine AtExit.blockRet ?_ | refine AtExit.blockEnd ?_ | refine AtExit.blockExit ?_ | (refine AtExit.blockPast ?_ ?_; rfl))
      refine AtExit.go ?_
      generalize hh : (lo + hi) / 2 = c
      refine WC.seq (WC.region ?_)
      refine WL.val rfl rfl (Runs.fld rfl fl57_0) ?_
      refine WL.val rfl rfl (Runs.load rfl na44 hs.c0) ?_
      repeat (first | (refine WL.val ?_ ?_ (Runs.move rfl) ?_; rfl; rfl) | (refine WL.val ?_ ?_ (Runs.assign rfl) ?_; rfl; rfl) | (refine WL.val ?_ ?_ (Runs.extract rfl rfl) ?_; rfl; rfl) | (refine WL.val ?_ ?_ (Runs.nilCheck rfl) ?_; rfl; rfl) | (refine WL.val ?_ ?_ (Runs.pickT rfl rfl) ?_; rfl; rfl) | (refine WL.val ?_ ?_ (Runs.pickF rfl rfl) ?_; rfl; rfl) | (refine WL.val ?_ ?_ (Runs.len rfl sl22) ?_; rfl; rfl) | (refine WL.val ?_ ?_ (Runs.len rfl sl27) ?_; rfl; rfl) | (refine WL.val ?_ ?_ (Runs.len rfl sl37) ?_; rfl; rfl) | (refine WL.pass ?_ ?_ ?_; rfl; rfl))
      refine WL.val rfl rfl (Runs.sub rfl rfl (r := ((M + m - 1 - c : Nat) : Int)) (wI (by omega) (by omega) (by omega))) ?_
      repeat (first | (refine WL.val ?_ ?_ (Runs.move rfl) ?_; rfl; rfl) | (refine WL.val ?_ ?_ (Runs.assign rfl) ?_; rfl; rfl) | (refine WL.val ?_ ?_ (Runs.extract rfl rfl) ?_; rfl; rfl) | (refine WL.val ?_ ?_ (Runs.nilCheck rfl) ?_; rfl; rfl) | (refine WL.val ?_ ?_ (Runs.pickT rfl rfl) ?_; rfl; rfl) | (refine WL.val ?_ ?_ (Runs.pickF rfl rfl) ?_; rfl; rfl) | (refine WL.val ?_ ?_ (Runs.len rfl sl22) ?_; rfl; rfl) | (refine WL.val ?_ ?_ (Runs.len rfl sl27) ?_; rfl; rfl) | (refine WL.val ?_ ?_ (Runs.len rfl sl37) ?_; rfl; rfl) | (refine WL.pass ?_ ?_ ?_; rfl; rfl))
      refine WL.call rfl rfl (RunsC.callV rfl rfl en9) (less_any hs.env (M + m - 1 - c) c (by omega) (by omega)) ?_
      rintro e w3 ⟨rfl, hbel⟩
      refine ⟨_, rfl, ?_⟩
      refine WL.val rfl rfl (Runs.not rfl) ?_
      refine WL.nil ?_
      repeat (first | refine AtExit.thenRet ?_ | refine AtExit.thenExit ?_ | refine AtExit.blockRet ?_ | refine AtExit.blockEnd ?_ | refine AtExit.blockExit ?_ | (refine AtExit.blockPast ?_ ?_; rfl))
      refine AtExit.go ?_
      have hs3 := hs.below hbel
      refine WC.split rfl (fun hd => ?_) (fun hd => ?_)
      · have hd : ¬ dayI l (M + m - 1 - c) < dayI l c := by simpa using hd
        refine WC.region ?_
        repeat (first | (refine WL.val ?_ ?_ (Runs.move rfl) ?_; rfl; rfl) | (refine WL.val ?_ ?_ (Runs.assign rfl) ?_; rfl; rfl) | (refine WL.val ?_ ?_ (Runs.extract rfl rfl) ?_; rfl; rfl) | (refine WL.val ?_ ?_ (Runs.nilCheck rfl) ?_; rfl; rfl) | (refine WL.val ?_ ?_ (Runs.pickT rfl rfl) ?_; rfl; rfl) | (refine WL.val ?_ ?_ (Runs.pickF rfl rfl) ?_; rfl; rfl) | (refine WL.val ?_ ?_ (Runs.len rfl sl22) ?_; rfl; rfl) | (refine WL.val ?_ ?_ (Runs.len rfl sl27) ?_; rfl; rfl) | (refine WL.val ?_ ?_ (Runs.len rfl sl37) ?_; rfl; rfl) | (refine WL.pass ?_ ?_ ?_; rfl; rfl))
        refine WL.val rfl rfl (Runs.add rfl rfl (r := ((c + 1 : Nat) : Int)) (wI (by omega) (by omega) (by omega))) ?_
        repeat (first | (refine WL.val ?_ ?_ (Runs.move rfl) ?_; rfl; rfl) | (refine WL.val ?_ ?_ (Runs.assign rfl) ?_; rfl; rfl) | (refine WL.val ?_ ?_ (Runs.extract rfl rfl) ?_; rfl; rfl) | (refine WL.val ?_ ?_ (Runs.nilCheck rfl) ?_; rfl; rfl) | (refine WL.val ?_ ?_ (Runs.pickT rfl rfl) ?_; rfl; rfl) | (refine WL.val ?_ ?_ (Runs.pickF rfl rfl) ?_; rfl; rfl) | (refine WL.val ?_ ?_ (Runs.len rfl sl22) ?_; rfl; rfl) | (refine WL.val ?_ ?_ (Runs.len rfl sl27) ?_; rfl; rfl) | (refine WL.val ?_ ?_ (Runs.len rfl sl37) ?_; rfl; rfl) | (refine WL.pass ?_ ?_ ?_; rfl; rfl))
        refine WL.nil ?_
        repeat (first | refine AtExit.thenRet ?_ | refine AtExit.thenExit ?_ | refine AtExit.blockRet ?_ | refine AtExit.blockEnd ?_ | refine AtExit.blockExit ?_ | (refine AtExit.blockPast ?_ ?_; rfl))
        refine AtExit.inv fun a ha => ⟨(c + 1, hi), ha.sub (by repeat (first | exact Sub.nil _ | refine Sub.cons rfl ?_)), ⟨by omega, by omega, h3, fun t g1 g2 => ?_, h5, hs3⟩, by show hi - (c + 1) < hi - lo; omega⟩
        have := mA t c (by omega) (by omega) (by omega)
        have := mB (M + m - 1 - c) (M + m - 1 - t) (by omega) (by omega) (by omega)
        omega
      · have hd : dayI l (M + m - 1 - c) < dayI l c := by simpa using hd
        refine WC.region ?_
        repeat (first | (refine WL.val ?_ ?_ (Runs.move rfl) ?_; rfl; rfl) | (refine WL.val ?_ ?_ (Runs.assign rfl) ?_; rfl; rfl) | (refine WL.val ?_ ?_ (Runs.extract rfl rfl) ?_; rfl; rfl) | (refine WL.val ?_ ?_ (Runs.nilCheck rfl) ?_; rfl; rfl) | (refine WL.val ?_ ?_ (Runs.pickT rfl rfl) ?_; rfl; rfl) | (refine WL.val ?_ ?_ (Runs.pickF rfl rfl) ?_; rfl; rfl) | (refine WL.val ?_ ?_ (Runs.len rfl sl22) ?_; rfl; rfl) | (refine WL.val ?_ ?_ (Runs.len rfl sl27) ?_; rfl; rfl) | (refine WL.val ?_ ?_ (Runs.len rfl sl37) ?_; rfl; rfl) | (refine WL.pass ?_ ?_ ?_; rfl; rfl))
        refine WL.nil ?_
        repeat (first | refine AtExit.thenRet ?_ | refine AtExit.thenExit ?_ | refine AtExit.blockRet ?_ | refine AtExit.blockEnd ?_ | refine AtExit.blockExit ?_ | (refine AtExit.blockPast ?_ ?_; rfl))
        refine AtExit.inv fun a ha => ⟨(lo, c), ha.sub (by repeat (first | exact Sub.nil _ | refine Sub.cons rfl ?_)), ⟨h1, by omega, by omega, h4, fun t g1 g2 => ?_, hs3⟩, by show c - lo < hi - lo; omega⟩
        have := mA c t (by omega) (by omega) (by omega)
        have := mB (M + m - 1 - t) (M + m - 1 - c) (by omega) (by omega) (by omega)
        omega
    · refine WL.val rfl rfl (Runs.lss rfl rfl (decge hij)) ?_
      refine WL.nil ?_
      repeat (first | refine AtExit.thenRet ?_ | refine AtExit.thenExit ?_ | refine AtExit.blockRet ?_ | refine AtExit.blockEnd ?_ | refine AtExit.blockExit ?_ | (refine AtExit.blockPast ?_ ?_; rfl))
      refine AtExit.go ?_
      refine WC.condF rfl ?_
      refine WC.exit ?_
      repeat (first | refine AtExit.thenRet ?_ | refine AtExit.thenExit ?_ | refine AtExit.blockRet ?_ | refine AtExit.blockEnd ?_ | refine AtExit.blockExit ?_ | (refine AtExit.blockPast ?_ ?_; rfl))
      refine AtExit.inv fun a ha => ⟨lo, ha.sub (by repeat (first | exact Sub.nil _ | refine Sub.cons rfl ?_)), h1, by omega, h4, fun t g1 g2 => h5 t (by omega) g2, hs⟩
  clear hst
  rintro s w3 ⟨s1, s2, s3, s4, hs⟩
  obtain ⟨A1, A2, hAA, hA1l⟩ : ∃ A1 A2, A = A1 ++ A2 ∧ A1.length = s - a := ⟨A.take (s - a), A.drop (s - a), (List.take_append_drop _ _).symm, by rw [List.length_take]; omega⟩
  obtain ⟨B1, B2, hBB, hB1l⟩ : ∃ B1 B2, B = B1 ++ B2 ∧ B1.length = M - s := ⟨B.take (M - s), B.drop (M - s), (List.take_append_drop _ _).symm, by rw [List.length_take]; omega⟩
  have eA1 : A1 = A.take (s - a) := by rw [hAA, ← hA1l]; simp
  have eA2 : A2 = A.drop (s - a) := by rw [hAA, ← hA1l]; simp
  have eB1 : B1 = B.take (M - s) := by rw [hBB, ← hB1l]; simp
  have eB2 : B2 = B.drop (M - s) := by rw [hBB, ← hB1l]; simp
  have h12 : ∀ x ∈ A1, ∀ y ∈ B2, x.day ≤ y.day := by
    intro x hx y hy
    rw [eA1] at hx
    rw [eB2] at hy
    obtain ⟨t, t1, t2, t3, t4⟩ := mem_take_mid (P := P) (R := B ++ S) hx
    obtain ⟨u, u1, u2, u3⟩ := mem_drop_mid (P := P ++ A) (R := S) hy
    rw [← lA] at t4
    rw [← lB] at u3
    rw [List.length_append] at u1 u2
    have := s3 (s - 1) (by omega) (by omega)
    have := mA t (s - 1) (by omega) (by omega) (by omega)
    have := mB (M + m - 1 - (s - 1)) u (by omega) (by omega) (by omega)
    omega
  have h21 : ∀ y ∈ B1, ∀ x ∈ A2, y.day < x.day := by
    intro y hy x hx
    rw [eA2] at hx
    rw [eB1] at hy
    obtain ⟨t, t1, t3, t4⟩ := mem_drop_mid (P := P) (R := B ++ S) hx
    obtain ⟨u, u1, u2, u2', u3⟩ := mem_take_mid (P := P ++ A) (R := S) hy
    rw [← lA] at t4
    rw [← lB] at u3
    rw [List.length_append] at u1 u2 u2'
    have := s4 s (by omega) (by omega)
    have := mA s t (by omega) (by omega) (by omega)
    have := mB u (M + m - 1 - s) (by omega) (by omega) (by omega)
    omega
  clear eA1 eA2 eB1 eB2 s3 s4 mA mB lA lB
  subst hl hAA hBB
  simp only [List.length_append] at hm hb hk hlen
  refine WC.seq (WC.region ?_)
  repeat (first | (refine WL.val ?_ ?_ (Runs.move rfl) ?_; rfl; rfl) | (refine WL.val ?_ ?_ (Runs.assign rfl) ?_; rfl; rfl) | (refine WL.val ?_ ?_ (Runs.extract rfl rfl) ?_; rfl; rfl) | (refine WL.val ?_ ?_ (Runs.nilCheck rfl) ?_; rfl; rfl) | (refine WL.val ?_ ?_ (Runs.pickT rfl rfl) ?_; rfl; rfl) | (refine WL.val ?_ ?_ (Runs.pickF rfl rfl) ?_; rfl; rfl) | (refine WL.val ?_ ?_ (Runs.len rfl sl22) ?_; rfl; rfl) | (refine WL.val ?_ ?_ (Runs.len rfl sl27) ?_; rfl; rfl) | (refine WL.val ?_ ?_ (Runs.len rfl sl37) ?_; rfl; rfl) | (refine WL.pass ?_ ?_ ?_; rfl; rfl))
  refine WL.val rfl rfl (Runs.sub rfl rfl (r := ((M + m - s : Nat) : Int)) (wI (by omega) (by omega) (by omega))) ?_
  repeat (first | (refine WL.val ?_ ?_ (Runs.move rfl) ?_; rfl; rfl) | (refine WL.val ?_ ?_ (Runs.assign rfl) ?_; rfl; rfl) | (refine WL.val ?_ ?_ (Runs.extract rfl rfl) ?_; rfl; rfl) | (refine WL.val ?_ ?_ (Runs.nilCheck rfl) ?_; rfl; rfl) | (refine WL.val ?_ ?_ (Runs.pickT rfl rfl) ?_; rfl; rfl) | (refine WL.val ?_ ?_ (Runs.pickF rfl rfl) ?_; rfl; rfl) | (refine WL.val ?_ ?_ (Runs.len rfl sl22) ?_; rfl; rfl) | (refine WL.val ?_ ?_ (Runs.len rfl sl27) ?_; rfl; rfl) | (refine WL.val ?_ ?_ (Runs.len rfl sl37) ?_; rfl; rfl) | (refine WL.pass ?_ ?_ ?_; rfl; rfl))
  refine WL.nil ?_
  repeat (first | refine AtExit.thenRet ?_ | refine AtExit.thenExit ?_ | refine AtExit.blockRet ?_ | refine AtExit.blockEnd ?_ | refine AtExit.blockExit ?_ | (refine AtExit.blockPast ?_ ?_; rfl))
  refine AtExit.go ?_
  have pA1 := (List.pairwise_append.1 hA).1
  have pA2 := (List.pairwise_append.1 hA).2.1
  have pB1 := (List.pairwise_append.1 hB).1
  have pB2 := (List.pairwise_append.1 hB).2.1
  refine WC.cut (α := Unit) (fun _ => [(1, .int .i64 (a : Int)), (3, .int .i64 (b : Int)), (4, .pointer (some ⟨D, 0, none⟩)), (16, .int .i64 (M : Int)), (18, .int .i64 (s : Int)), (22, .int .i64 ((M + m - s : Nat) : Int))])
    (fun _ w' => St g q n cap D w w' (P ++ A1 ++ B1 ++ A2 ++ B2 ++ S)) ?_ ?_
  · have eq0 : A2.length = 0 ∨ B1.length = 0 → P ++ (A1 ++ A2) ++ (B1 ++ B2) ++ S = P ++ A1 ++ B1 ++ A2 ++ B2 ++ S := by
      rintro (h | h)
      · rw [List.length_eq_zero_iff.1 h]; simp
      · rw [List.length_eq_zero_iff.1 h]; simp
    refine WC.seq (WC.region ?_)
    repeat (first | (refine WL.val ?_ ?_ (Runs.move rfl) ?_; rfl; rfl) | (refine WL.val ?_ ?_ (Runs.assign rfl) ?_; rfl; rfl) | (refine WL.val ?_ ?_ (Runs.extract rfl rfl) ?_; rfl; rfl) | (refine WL.val ?_ ?_ (Runs.nilCheck rfl) ?_; rfl; rfl) | (refine WL.val ?_ ?_ (Runs.pickT rfl rfl) ?_; rfl; rfl) | (refine WL.val ?_ ?_ (Runs.pickF rfl rfl) ?_; rfl; rfl) | (refine WL.val ?_ ?_ (Runs.len rfl sl22) ?_; rfl; rfl) | (refine WL.val ?_ ?_ (Runs.len rfl sl27) ?_; rfl; rfl) | (refine WL.val ?_ ?_ (Runs.len rfl sl37) ?_; rfl; rfl) | (refine WL.pass ?_ ?_ ?_; rfl; rfl))
    by_cases c1 : s < m
    · refine WL.val rfl rfl (Runs.lss rfl rfl (declt c1)) ?_
      repeat (first | (refine WL.val ?_ ?_ (Runs.move rfl) ?_; rfl; rfl) | (refine WL.val ?_ ?_ (Runs.assign rfl) ?_; rfl; rfl) | (refine WL.val ?_ ?_ (Runs.extract rfl rfl) ?_; rfl; rfl) | (refine WL.val ?_ ?_ (Runs.nilCheck rfl) ?_; rfl; rfl) | (refine WL.val ?_ ?_ (Runs.pickT rfl rfl) ?_; rfl; rfl) | (refine WL.val ?_ ?_ (Runs.pickF rfl rfl) ?_; rfl; rfl) | (refine WL.val ?_ ?_ (Runs.len rfl sl22) ?_; rfl; rfl) | (refine WL.val ?_ ?_ (Runs.len rfl sl27) ?_; rfl; rfl) | (refine WL.val ?_ ?_ (Runs.len rfl sl37) ?_; rfl; rfl) | (refine WL.pass ?_ ?_ ?_; rfl; rfl))
      by_cases c2 : m < M + m - s
      · refine WL.val rfl rfl (Runs.lss rfl rfl (declt c2)) ?_
        repeat (first | (refine WL.val ?_ ?_ (Runs.move rfl) ?_; rfl; rfl) | (refine WL.val ?_ ?_ (Runs.assign rfl) ?_; rfl; rfl) | (refine WL.val ?_ ?_ (Runs.extract rfl rfl) ?_; rfl; rfl) | (refine WL.val ?_ ?_ (Runs.nilCheck rfl) ?_; rfl; rfl) | (refine WL.val ?_ ?_ (Runs.pickT rfl rfl) ?_; rfl; rfl) | (refine WL.val ?_ ?_ (Runs.pickF rfl rfl) ?_; rfl; rfl) | (refine WL.val ?_ ?_ (Runs.len rfl sl22) ?_; rfl; rfl) | (refine WL.val ?_ ?_ (Runs.len rfl sl27) ?_; rfl; rfl) | (refine WL.val ?_ ?_ (Runs.len rfl sl37) ?_; rfl; rfl) | (refine WL.pass ?_ ?_ ?_; rfl; rfl))
        refine WL.nil ?_
        repeat (first | refine AtExit.thenRet ?_ | refine AtExit.thenExit ?_ | refine AtExit.blockRet ?_ | refine AtExit.blockEnd ?_ | refine AtExit.blockExit ?_ | (refine AtExit.blockPast ?_ ?_; rfl))
        refine AtExit.go ?_
        refine WC.condT rfl ?_
        refine WC.region ?_
        refine WL.val rfl rfl (Runs.loadAgg (cs := [lv q, sv g n cap]) rfl na57 sz57 hs.all) ?_
        repeat (first | (refine WL.val ?_ ?_ (Runs.move rfl) ?_; rfl; rfl) | (refine WL.val ?_ ?_ (Runs.assign rfl) ?_; rfl; rfl) | (refine WL.val ?_ ?_ (Runs.extract rfl rfl) ?_; rfl; rfl) | (refine WL.val ?_ ?_ (Runs.nilCheck rfl) ?_; rfl; rfl) | (refine WL.val ?_ ?_ (Runs.pickT rfl rfl) ?_; rfl; rfl) | (refine WL.val ?_ ?_ (Runs.pickF rfl rfl) ?_; rfl; rfl) | (refine WL.val ?_ ?_ (Runs.len rfl sl22) ?_; rfl; rfl) | (refine WL.val ?_ ?_ (Runs.len rfl sl27) ?_; rfl; rfl) | (refine WL.val ?_ ?_ (Runs.len rfl sl37) ?_; rfl; rfl) | (refine WL.pass ?_ ?_ ?_; rfl; rfl))
        have hE' : Env g q n cap w3 ((P ++ A1) ++ A2 ++ B1 ++ (B2 ++ S)) := by
          have e : (P ++ A1) ++ A2 ++ B1 ++ (B2 ++ S) = P ++ (A1 ++ A2) ++ (B1 ++ B2) ++ S := by simp
          rw [e]; exact hs.env
        refine WL.call rfl rfl (RunsC.call rfl en31) (rotate_any hn (P ++ A1) A2 B1 (B2 ++ S) s m (M + m - s) w3 hE' (by rw [List.length_append]; omega) (by omega) (by omega) (by omega) (by omega)) ?_
        rintro e w4 ⟨rfl, hE4, hg4⟩
        refine ⟨_, rfl, ?_⟩
        rw [← List.append_assoc] at hE4
        refine WL.nil ?_
        repeat (first | refine AtExit.thenRet ?_ | refine AtExit.thenExit ?_ | refine AtExit.blockRet ?_ | refine AtExit.blockEnd ?_ | refine AtExit.blockExit ?_ | (refine AtExit.blockPast ?_ ?_; rfl))
        refine AtExit.inv fun a ha => ⟨(), ha.sub (by repeat (first | exact Sub.nil _ | refine Sub.cons rfl ?_)), hs.call hE4 hg4⟩
      · refine WL.val rfl rfl (Runs.lss rfl rfl (decge c2)) ?_
        repeat (first | (refine WL.val ?_ ?_ (Runs.move rfl) ?_; rfl; rfl) | (refine WL.val ?_ ?_ (Runs.assign rfl) ?_; rfl; rfl) | (refine WL.val ?_ ?_ (Runs.extract rfl rfl) ?_; rfl; rfl) | (refine WL.val ?_ ?_ (Runs.nilCheck rfl) ?_; rfl; rfl) | (refine WL.val ?_ ?_ (Runs.pickT rfl rfl) ?_; rfl; rfl) | (refine WL.val ?_ ?_ (Runs.pickF rfl rfl) ?_; rfl; rfl) | (refine WL.val ?_ ?_ (Runs.len rfl sl22) ?_; rfl; rfl) | (refine WL.val ?_ ?_ (Runs.len rfl sl27) ?_; rfl; rfl) | (refine WL.val ?_ ?_ (Runs.len rfl sl37) ?_; rfl; rfl) | (refine WL.pass ?_ ?_ ?_; rfl; rfl))
        refine WL.nil ?_
        repeat (first | refine AtExit.thenRet ?_ | refine AtExit.thenExit ?_ | refine AtExit.blockRet ?_ | refine AtExit.blockEnd ?_ | refine AtExit.blockExit ?_ | (refine AtExit.blockPast ?_ ?_; rfl))
        refine AtExit.go ?_
        refine WC.condF rfl ?_
        refine WC.skip ?_
        repeat (first | refine AtExit.thenRet ?_ | refine AtExit.thenExit ?_ | refine AtExit.blockRet ?_ | refine AtExit.blockEnd ?_ | refine AtExit.blockExit ?_ | (refine AtExit.blockPast ?_ ?_; rfl))
        refine AtExit.inv fun a ha => ⟨(), ha.sub (by repeat (first | exact Sub.nil _ | refine Sub.cons rfl ?_)), by rw [← eq0 (by omega)]; exact hs⟩
    · refine WL.val rfl rfl (Runs.lss rfl rfl (decge c1)) ?_
      repeat (first | (refine WL.val ?_ ?_ (Runs.move rfl) ?_; rfl; rfl) | (refine WL.val ?_ ?_ (Runs.assign rfl) ?_; rfl; rfl) | (refine WL.val ?_ ?_ (Runs.extract rfl rfl) ?_; rfl; rfl) | (refine WL.val ?_ ?_ (Runs.nilCheck rfl) ?_; rfl; rfl) | (refine WL.val ?_ ?_ (Runs.pickT rfl rfl) ?_; rfl; rfl) | (refine WL.val ?_ ?_ (Runs.pickF rfl rfl) ?_; rfl; rfl) | (refine WL.val ?_ ?_ (Runs.len rfl sl22) ?_; rfl; rfl) | (refine WL.val ?_ ?_ (Runs.len rfl sl27) ?_; rfl; rfl) | (refine WL.val ?_ ?_ (Runs.len rfl sl37) ?_; rfl; rfl) | (refine WL.pass ?_ ?_ ?_; rfl; rfl))
      refine WL.nil ?_
      repeat (first | refine AtExit.thenRet ?_ | refine AtExit.thenExit ?_ | refine AtExit.blockRet ?_ | refine AtExit.blockEnd ?_ | refine AtExit.blockExit ?_ | (refine AtExit.blockPast ?_ ?_; rfl))
      refine AtExit.go ?_
      refine WC.condF rfl ?_
      refine WC.skip ?_
      repeat (first | refine AtExit.thenRet ?_ | refine AtExit.thenExit ?_ | refine AtExit.blockRet ?_ | refine AtExit.blockEnd ?_ | refine AtExit.blockExit ?_ | (refine AtExit.blockPast ?_ ?_; rfl))
      refine AtExit.inv fun a ha => ⟨(), ha.sub (by repeat (first | exact Sub.nil _ | refine Sub.cons rfl ?_)), by rw [← eq0 (by omega)]; exact hs⟩
  clear hs w3
  rintro _ w3 hs
  refine WC.cut (α := List Rc) (fun _ => [(3, .int .i64 (b : Int)), (4, .pointer (some ⟨D, 0, none⟩)), (16, .int .i64 (M : Int)), (22, .int .i64 ((M + m - s : Nat) : Int))])
    (fun C w' => C.Perm (A1 ++ B1) ∧ C.Pairwise lx ∧ St g q n cap D w w' (P ++ C ++ A2 ++ B2 ++ S)) ?_ ?_
  · have none1 : A1.length = 0 ∨ B1.length = 0 → (A1 ++ B1).Perm (A1 ++ B1) ∧ (A1 ++ B1).Pairwise lx ∧ St g q n cap D w w3 (P ++ (A1 ++ B1) ++ A2 ++ B2 ++ S) := by
      intro h
      refine ⟨List.Perm.refl _, ?_, by rw [← List.append_assoc P]; exact hs⟩
      rcases h with h | h
      · rw [List.length_eq_zero_iff.1 h, List.nil_append]; exact pB1
      · rw [List.length_eq_zero_iff.1 h, List.append_nil]; exact pA1
    refine WC.seq (WC.region ?_)
    repeat (first | (refine WL.val ?_ ?_ (Runs.move rfl) ?_; rfl; rfl) | (refine WL.val ?_ ?_ (Runs.assign rfl) ?_; rfl; rfl) | (refine WL.val ?_ ?_ (Runs.extract rfl rfl) ?_; rfl; rfl) | (refine WL.val ?_ ?_ (Runs.nilCheck rfl) ?_; rfl; rfl) | (refine WL.val ?_ ?_ (Runs.pickT rfl rfl) ?_; rfl; rfl) | (refine WL.val ?_ ?_ (Runs.pickF rfl rfl) ?_; rfl; rfl) | (refine WL.val ?_ ?_ (Runs.len rfl sl22) ?_; rfl; rfl) | (refine WL.val ?_ ?_ (Runs.len rfl sl27) ?_; rfl; rfl) | (refine WL.val ?_ ?_ (Runs.len rfl sl37) ?_; rfl; rfl) | (refine WL.pass ?_ ?_ ?_; rfl; rfl))
    by_cases c1 : a < s
    · refine WL.val rfl rfl (Runs.lss rfl rfl (declt c1)) ?_
      repeat (first | (refine WL.val ?_ ?_ (Runs.move rfl) ?_; rfl; rfl) | (refine WL.val ?_ ?_ (Runs.assign rfl) ?_; rfl; rfl) | (refine WL.val ?_ ?_ (Runs.extract rfl rfl) ?_; rfl; rfl) | (refine WL.val ?_ ?_ (Runs.nilCheck rfl) ?_; rfl; rfl) | (refine WL.val ?_ ?_ (Runs.pickT rfl rfl) ?_; rfl; rfl) | (refine WL.val ?_ ?_ (Runs.pickF rfl rfl) ?_; rfl; rfl) | (refine WL.val ?_ ?_ (Runs.len rfl sl22) ?_; rfl; rfl) | (refine WL.val ?_ ?_ (Runs.len rfl sl27) ?_; rfl; rfl) | (refine WL.val ?_ ?_ (Runs.len rfl sl37) ?_; rfl; rfl) | (refine WL.pass ?_ ?_ ?_; rfl; rfl))
      by_cases c2 : s < M
      · refine WL.val rfl rfl (Runs.lss rfl rfl (declt c2)) ?_
        repeat (first | (refine WL.val ?_ ?_ (Runs.move rfl) ?_; rfl; rfl) | (refine WL.val ?_ ?_ (Runs.assign rfl) ?_; rfl; rfl) | (refine WL.val ?_ ?_ (Runs.extract rfl rfl) ?_; rfl; rfl) | (refine WL.val ?_ ?_ (Runs.nilCheck rfl) ?_; rfl; rfl) | (refine WL.val ?_ ?_ (Runs.pickT rfl rfl) ?_; rfl; rfl) | (refine WL.val ?_ ?_ (Runs.pickF rfl rfl) ?_; rfl; rfl) | (refine WL.val ?_ ?_ (Runs.len rfl sl22) ?_; rfl; rfl) | (refine WL.val ?_ ?_ (Runs.len rfl sl27) ?_; rfl; rfl) | (refine WL.val ?_ ?_ (Runs.len rfl sl37) ?_; rfl; rfl) | (refine WL.pass ?_ ?_ ?_; rfl; rfl))
        refine WL.nil ?_
        repeat (first | refine AtExit.thenRet ?_ | refine AtExit.thenExit ?_ | refine AtExit.blockRet ?_ | refine AtExit.blockEnd ?_ | refine AtExit.blockExit ?_ | (refine AtExit.blockPast ?_ ?_; rfl))
        refine AtExit.go ?_
        refine WC.condT rfl ?_
        refine WC.region ?_
        refine WL.val rfl rfl (Runs.loadAgg (cs := [lv q, sv g n cap]) rfl na57 sz57 hs.all) ?_
        repeat (first | (refine WL.val ?_ ?_ (Runs.move rfl) ?_; rfl; rfl) | (refine WL.val ?_ ?_ (Runs.assign rfl) ?_; rfl; rfl) | (refine WL.val ?_ ?_ (Runs.extract rfl rfl) ?_; rfl; rfl) | (refine WL.val ?_ ?_ (Runs.nilCheck rfl) ?_; rfl; rfl) | (refine WL.val ?_ ?_ (Runs.pickT rfl rfl) ?_; rfl; rfl) | (refine WL.val ?_ ?_ (Runs.pickF rfl rfl) ?_; rfl; rfl) | (refine WL.val ?_ ?_ (Runs.len rfl sl22) ?_; rfl; rfl) | (refine WL.val ?_ ?_ (Runs.len rfl sl27) ?_; rfl; rfl) | (refine WL.val ?_ ?_ (Runs.len rfl sl37) ?_; rfl; rfl) | (refine WL.pass ?_ ?_ ?_; rfl; rfl))
        have hE' : Env g q n cap w3 (P ++ A1 ++ B1 ++ (A2 ++ B2 ++ S)) := by
          have e : P ++ A1 ++ B1 ++ (A2 ++ B2 ++ S) = P ++ A1 ++ B1 ++ A2 ++ B2 ++ S := by simp
          rw [e]; exact hs.env
        refine WL.call rfl rfl (RunsC.call rfl en30) (ih (A1.length + B1.length) (by omega) P A1 B1 (A2 ++ B2 ++ S) a s M w3 rfl ha0 (by omega) (by omega) (by omega) (by omega) pA1 pB1 (fun x hx y hy => hAB x (List.mem_append_left _ hx) y (List.mem_append_left _ hy)) hE') ?_
        rintro e w4 ⟨rfl, ⟨C, hE4, hp4, hs4⟩, hg4⟩
        refine ⟨_, rfl, ?_⟩
        rw [← List.append_assoc, ← List.append_assoc] at hE4
        refine WL.nil ?_
        repeat (first | refine AtExit.thenRet ?_ | refine AtExit.thenExit ?_ | refine AtExit.blockRet ?_ | refine AtExit.blockEnd ?_ | refine AtExit.blockExit ?_ | (refine AtExit.blockPast ?_ ?_; rfl))
        refine AtExit.inv fun a ha => ⟨C, ha.sub (by repeat (first | exact Sub.nil _ | refine Sub.cons rfl ?_)), hp4, hs4, hs.call hE4 hg4⟩
      · refine WL.val rfl rfl (Runs.lss rfl rfl (decge c2)) ?_
        repeat (first | (refine WL.val ?_ ?_ (Runs.move rfl) ?_; rfl; rfl) | (refine WL.val ?_ ?_ (Runs.assign rfl) ?_; rfl; rfl) | (refine WL.val ?_ ?_ (Runs.extract rfl rfl) ?_; rfl; rfl) | (refine WL.val ?_ ?_ (Runs.nilCheck rfl) ?_; rfl; rfl) | (refine WL.val ?_ ?_ (Runs.pickT rfl rfl) ?_; rfl; rfl) | (refine WL.val ?_ ?_ (Runs.pickF rfl rfl) ?_; rfl; rfl) | (refine WL.val ?_ ?_ (Runs.len rfl sl22) ?_; rfl; rfl) | (refine WL.val ?_ ?_ (Runs.len rfl sl27) ?_; rfl; rfl) | (refine WL.val ?_ ?_ (Runs.len rfl sl37) ?_; rfl; rfl) | (refine WL.pass ?_ ?_ ?_; rfl; rfl))
        refine WL.nil ?_
        repeat (first | refine AtExit.thenRet ?_ | refine AtExit.thenExit ?_ | refine AtExit.blockRet ?_ | refine AtExit.blockEnd ?_ | refine AtExit.blockExit ?_ | (refine AtExit.blockPast ?_ ?_; rfl))
        refine AtExit.go ?_
        refine WC.condF rfl ?_
        refine WC.skip ?_
        repeat (first | refine AtExit.thenRet ?_ | refine AtExit.thenExit ?_ | refine AtExit.blockRet ?_ | refine AtExit.blockEnd ?_ | refine AtExit.blockExit ?_ | (refine AtExit.blockPast ?_ ?_; rfl))
        refine AtExit.inv fun a ha => ⟨_, ha.sub (by repeat (first | exact Sub.nil _ | refine Sub.cons rfl ?_)), none1 (by omega)⟩
    · refine WL.val rfl rfl (Runs.lss rfl rfl (decge c1)) ?_
      repeat (first | (refine WL.val ?_ ?_ (Runs.move rfl) ?_; rfl; rfl) | (refine WL.val ?_ ?_ (Runs.assign rfl) ?_; rfl; rfl) | (refine WL.val ?_ ?_ (Runs.extract rfl rfl) ?_; rfl; rfl) | (refine WL.val ?_ ?_ (Runs.nilCheck rfl) ?_; rfl; rfl) | (refine WL.val ?_ ?_ (Runs.pickT rfl rfl) ?_; rfl; rfl) | (refine WL.val ?_ ?_ (Runs.pickF rfl rfl) ?_; rfl; rfl) | (refine WL.val ?_ ?_ (Runs.len rfl sl22) ?_; rfl; rfl) | (refine WL.val ?_ ?_ (Runs.len rfl sl27) ?_; rfl; rfl) | (refine WL.val ?_ ?_ (Runs.len rfl sl37) ?_; rfl; rfl) | (refine WL.pass ?_ ?_ ?_; rfl; rfl))
      refine WL.nil ?_
      repeat (first | refine AtExit.thenRet ?_ | refine AtExit.thenExit ?_ | refine AtExit.blockRet ?_ | refine AtExit.blockEnd ?_ | refine AtExit.blockExit ?_ | (refine AtExit.blockPast ?_ ?_; rfl))
      refine AtExit.go ?_
      refine WC.condF rfl ?_
      refine WC.skip ?_
      repeat (first | refine AtExit.thenRet ?_ | refine AtExit.thenExit ?_ | refine AtExit.blockRet ?_ | refine AtExit.blockEnd ?_ | refine AtExit.blockExit ?_ | (refine AtExit.blockPast ?_ ?_; rfl))
      refine AtExit.inv fun a ha => ⟨_, ha.sub (by repeat (first | exact Sub.nil _ | refine Sub.cons rfl ?_)), none1 (by omega)⟩
  clear hs w3
  rintro C1 w3 ⟨hp1, hsC1, hs⟩
  have hC1l : C1.length = M - a := by rw [hp1.length_eq, List.length_append]; omega
  have fin : ∀ w4 C2, C2.Perm (A2 ++ B2) → C2.Pairwise lx → Env g q n cap w4 (P ++ C1 ++ C2 ++ S) → ∃ C, Env g q n cap w4 (P ++ C ++ S) ∧ C.Perm (A1 ++ A2 ++ (B1 ++ B2)) ∧ C.Pairwise lx := fun w4 C2 hp2 hs2 hE4 => by
    obtain ⟨j1, j2⟩ := merge_join hA hB hAB h12 h21 hp1 hp2 hsC1 hs2
    exact ⟨C1 ++ C2, by rw [← List.append_assoc P]; exact hE4, j2, j1⟩
  have none2 : A2.length = 0 ∨ B2.length = 0 → ∃ C, Env g q n cap w3 (P ++ C ++ S) ∧ C.Perm (A1 ++ A2 ++ (B1 ++ B2)) ∧ C.Pairwise lx := by
    intro h
    refine fin w3 (A2 ++ B2) (List.Perm.refl _) ?_ (by rw [← List.append_assoc (P ++ C1)]; exact hs.env)
    rcases h with h | h
    · rw [List.length_eq_zero_iff.1 h, List.nil_append]; exact pB2
    · rw [List.length_eq_zero_iff.1 h, List.append_nil]; exact pA2
  refine WC.seq (WC.region ?_)
  repeat (first | (refine WL.val ?_ ?_ (Runs.move rfl) ?_; rfl; rfl) | (refine WL.val ?_ ?_ (Runs.assign rfl) ?_; rfl; rfl) | (refine WL.val ?_ ?_ (Runs.extract rfl rfl) ?_; rfl; rfl) | (refine WL.val ?_ ?_ (Runs.nilCheck rfl) ?_; rfl; rfl) | (refine WL.val ?_ ?_ (Runs.pickT rfl rfl) ?_; rfl; rfl) | (refine WL.val ?_ ?_ (Runs.pickF rfl rfl) ?_; rfl; rfl) | (refine WL.val ?_ ?_ (Runs.len rfl sl22) ?_; rfl; rfl) | (refine WL.val ?_ ?_ (Runs.len rfl sl27) ?_; rfl; rfl) | (refine WL.val ?_ ?_ (Runs.len rfl sl37) ?_; rfl; rfl) | (refine WL.pass ?_ ?_ ?_; rfl; rfl))
  by_cases c1 : M < M + m - s
  · refine WL.val rfl rfl (Runs.lss rfl rfl (declt c1)) ?_
    repeat (first | (refine WL.val ?_ ?_ (Runs.move rfl) ?_; rfl; rfl) | (refine WL.val ?_ ?_ (Runs.assign rfl) ?_; rfl; rfl) | (refine WL.val ?_ ?_ (Runs.extract rfl rfl) ?_; rfl; rfl) | (refine WL.val ?_ ?_ (Runs.nilCheck rfl) ?_; rfl; rfl) | (refine WL.val ?_ ?_ (Runs.pickT rfl rfl) ?_; rfl; rfl) | (refine WL.val ?_ ?_ (Runs.pickF rfl rfl) ?_; rfl; rfl) | (refine WL.val ?_ ?_ (Runs.len rfl sl22) ?_; rfl; rfl) | (refine WL.val ?_ ?_ (Runs.len rfl sl27) ?_; rfl; rfl) | (refine WL.val ?_ ?_ (Runs.len rfl sl37) ?_; rfl; rfl) | (refine WL.pass ?_ ?_ ?_; rfl; rfl))
    by_cases c2 : M + m - s < b
    · refine WL.val rfl rfl (Runs.lss rfl rfl (declt c2)) ?_
      repeat (first | (refine WL.val ?_ ?_ (Runs.move rfl) ?_; rfl; rfl) | (refine WL.val ?_ ?_ (Runs.assign rfl) ?_; rfl; rfl) | (refine WL.val ?_ ?_ (Runs.extract rfl rfl) ?_; rfl; rfl) | (refine WL.val ?_ ?_ (Runs.nilCheck rfl) ?_; rfl; rfl) | (refine WL.val ?_ ?_ (Runs.pickT rfl rfl) ?_; rfl; rfl) | (refine WL.val ?_ ?_ (Runs.pickF rfl rfl) ?_; rfl; rfl) | (refine WL.val ?_ ?_ (Runs.len rfl sl22) ?_; rfl; rfl) | (refine WL.val ?_ ?_ (Runs.len rfl sl27) ?_; rfl; rfl) | (refine WL.val ?_ ?_ (Runs.len rfl sl37) ?_; rfl; rfl) | (refine WL.pass ?_ ?_ ?_; rfl; rfl))
      refine WL.nil ?_
      repeat (first | refine AtExit.thenRet ?_ | refine AtExit.thenExit ?_ | refine AtExit.blockRet ?_ | refine AtExit.blockEnd ?_ | refine AtExit.blockExit ?_ | (refine AtExit.blockPast ?_ ?_; rfl))
      refine AtExit.go ?_
      refine WC.condT rfl ?_
      refine WC.region ?_
      refine WL.val rfl rfl (Runs.loadAgg (cs := [lv q, sv g n cap]) rfl na57 sz57 hs.all) ?_
      repeat (first | (refine WL.val ?_ ?_ (Runs.move rfl) ?_; rfl; rfl) | (refine WL.val ?_ ?_ (Runs.assign rfl) ?_; rfl; rfl) | (refine WL.val ?_ ?_ (Runs.extract rfl rfl) ?_; rfl; rfl) | (refine WL.val ?_ ?_ (Runs.nilCheck rfl) ?_; rfl; rfl) | (refine WL.val ?_ ?_ (Runs.pickT rfl rfl) ?_; rfl; rfl) | (refine WL.val ?_ ?_ (Runs.pickF rfl rfl) ?_; rfl; rfl) | (refine WL.val ?_ ?_ (Runs.len rfl sl22) ?_; rfl; rfl) | (refine WL.val ?_ ?_ (Runs.len rfl sl27) ?_; rfl; rfl) | (refine WL.val ?_ ?_ (Runs.len rfl sl37) ?_; rfl; rfl) | (refine WL.pass ?_ ?_ ?_; rfl; rfl))
      refine WL.call rfl rfl (RunsC.call rfl en30) (ih (A2.length + B2.length) (by omega) (P ++ C1) A2 B2 S M (M + m - s) b w3 rfl (by rw [List.length_append]; omega) (by omega) (by omega) (by omega) (by omega) pA2 pB2 (fun x hx y hy => hAB x (List.mem_append_right _ hx) y (List.mem_append_right _ hy)) hs.env) ?_
      rintro e w4 ⟨rfl, ⟨C, hE4, hp4, hs4⟩, hg4⟩
      refine ⟨_, rfl, ?_⟩
      refine WL.nil ?_
      exact post0e rfl ⟨rfl, fin w4 C hp4 hs4 hE4, World.grownBy.trans' hs.grown hg4⟩
    · refine WL.val rfl rfl (Runs.lss rfl rfl (decge c2)) ?_
      repeat (first | (refine WL.val ?_ ?_ (Runs.move rfl) ?_; rfl; rfl) | (refine WL.val ?_ ?_ (Runs.assign rfl) ?_; rfl; rfl) | (refine WL.val ?_ ?_ (Runs.extract rfl rfl) ?_; rfl; rfl) | (refine WL.val ?_ ?_ (Runs.nilCheck rfl) ?_; rfl; rfl) | (refine WL.val ?_ ?_ (Runs.pickT rfl rfl) ?_; rfl; rfl) | (refine WL.val ?_ ?_ (Runs.pickF rfl rfl) ?_; rfl; rfl) | (refine WL.val ?_ ?_ (Runs.len rfl sl22) ?_; rfl; rfl) | (refine WL.val ?_ ?_ (Runs.len rfl sl27) ?_; rfl; rfl) | (refine WL.val ?_ ?_ (Runs.len rfl sl37) ?_; rfl; rfl) | (refine WL.pass ?_ ?_ ?_; rfl; rfl))
      refine WL.nil ?_
      repeat (first | refine AtExit.thenRet ?_ | refine AtExit.thenExit ?_ | refine AtExit.blockRet ?_ | refine AtExit.blockEnd ?_ | refine AtExit.blockExit ?_ | (refine AtExit.blockPast ?_ ?_; rfl))
      refine AtExit.go ?_
      refine WC.condF rfl ?_
      refine WC.skip ?_
      exact post0e rfl ⟨rfl, none2 (by omega), hs.grown⟩
  · refine WL.val rfl rfl (Runs.lss rfl rfl (decge c1)) ?_
    repeat (first | (refine WL.val ?_ ?_ (Runs.move rfl) ?_; rfl; rfl) | (refine WL.val ?_ ?_ (Runs.assign rfl) ?_; rfl; rfl) | (refine WL.val ?_ ?_ (Runs.extract rfl rfl) ?_; rfl; rfl) | (refine WL.val ?_ ?_ (Runs.nilCheck rfl) ?_; rfl; rfl) | (refine WL.val ?_ ?_ (Runs.pickT rfl rfl) ?_; rfl; rfl) | (refine WL.val ?_ ?_ (Runs.pickF rfl rfl) ?_; rfl; rfl) | (refine WL.val ?_ ?_ (Runs.len rfl sl22) ?_; rfl; rfl) | (refine WL.val ?_ ?_ (Runs.len rfl sl27) ?_; rfl; rfl) | (refine WL.val ?_ ?_ (Runs.len rfl sl37) ?_; rfl; rfl) | (refine WL.pass ?_ ?_ ?_; rfl; rfl))
    refine WL.nil ?_
    repeat (first | refine AtExit.thenRet ?_ | refine AtExit.thenExit ?_ | refine AtExit.blockRet ?_ | refine AtExit.blockEnd ?_ | refine AtExit.blockExit ?_ | (refine AtExit.blockPast ?_ ?_; rfl))
    refine AtExit.go ?_
    refine WC.condF rfl ?_
    refine WC.skip ?_
    exact post0e rfl ⟨rfl, none2 (by omega), hs.grown⟩
end
end Go.Proofs.Ybulkgfau
