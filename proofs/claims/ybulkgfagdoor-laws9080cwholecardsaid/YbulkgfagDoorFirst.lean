/- same, firstDisjoint, FirstApart, FirstDisjoint. -/
import Derived.Test.YbulkgfagDoorSmall
namespace Go.Proofs.YbulkgfagDoor
open Go Go.Fr Go.RowKit

/-- (i, j, ok) is the first pair that p takes, i below m1, j from s i on and below m2. -/
def FirstAt (p : Nat → Nat → Bool) (s : Nat → Nat) (m1 m2 i j : Nat) (ok : Bool) : Prop :=
  (ok = true ∧ i < m1 ∧ s i ≤ j ∧ j < m2 ∧ p i j = true ∧ (∀ i' j', i' < i → s i' ≤ j' → j' < m2 → p i' j' = false) ∧ ∀ j', s i ≤ j' → j' < j → p i j' = false) ∨
  (ok = false ∧ i = 0 ∧ j = 0 ∧ ∀ i' j', i' < m1 → s i' ≤ j' → j' < m2 → p i' j' = false)

theorem FirstAt.unique {p : Nat → Nat → Bool} {s : Nat → Nat} {m1 m2 i j i' j' : Nat} {ok ok' : Bool} (h : FirstAt p s m1 m2 i j ok) (h' : FirstAt p s m1 m2 i' j' ok') : i = i' ∧ j = j' ∧ ok = ok' := by
  rcases h with ⟨rfl, h1, h2, h3, h4, h5, h6⟩ | ⟨rfl, rfl, rfl, h1⟩
  · rcases h' with ⟨rfl, g1, g2, g3, g4, g5, g6⟩ | ⟨rfl, rfl, rfl, g1⟩
    · have hi : i = i' := by
        rcases Nat.lt_trichotomy i i' with h | h | h
        · have := g5 i j h h2 h3; rw [h4] at this; cases this
        · exact h
        · have := h5 i' j' h g2 g3; rw [g4] at this; cases this
      subst hi
      refine ⟨rfl, ?_, rfl⟩
      rcases Nat.lt_trichotomy j j' with h | h | h
      · have := g6 j h2 h; rw [h4] at this; cases this
      · exact h
      · have := h6 j' g2 h; rw [g4] at this; cases this
    · have := g1 i j h1 h2 h3; rw [h4] at this; cases this
  · rcases h' with ⟨rfl, g1, g2, g3, g4, g5, g6⟩ | ⟨rfl, rfl, rfl, g1⟩
    · have := h1 i' j' g1 g2 g3; rw [g4] at this; cases this
    · exact ⟨rfl, rfl, rfl⟩

theorem FirstAt.congr {p q : Nat → Nat → Bool} {s : Nat → Nat} {m1 m2 i j : Nat} {ok : Bool} (h : FirstAt p s m1 m2 i j ok) (he : ∀ i j, i < m1 → j < m2 → p i j = q i j) : FirstAt q s m1 m2 i j ok := by
  rcases h with ⟨h0, h1, h2, h3, h4, h5, h6⟩ | ⟨h0, h1, h2, h3⟩
  · exact Or.inl ⟨h0, h1, h2, h3, by rw [← he i j h1 h3]; exact h4, fun i' j' a b c => by rw [← he i' j' (by omega) c]; exact h5 i' j' a b c, fun j' a b => by rw [← he i j' h1 (by omega)]; exact h6 j' a b⟩
  · exact Or.inr ⟨h0, h1, h2, fun i' j' a b c => by rw [← he i' j' a c]; exact h3 i' j' a b c⟩

theorem least_of (p : Nat → Bool) : ∀ (m : Nat), (∃ j, j < m ∧ p j = true ∧ ∀ j', j' < j → p j' = false) ∨ ∀ j, j < m → p j = false
  | 0 => Or.inr fun j hj => absurd hj (Nat.not_lt_zero _)
  | m + 1 => by
    rcases least_of p m with ⟨j, h1, h2, h3⟩ | h
    · exact Or.inl ⟨j, by omega, h2, h3⟩
    · cases hm : p m with
      | true => exact Or.inl ⟨m, by omega, hm, h⟩
      | false =>
        refine Or.inr fun j hj => ?_
        rcases Nat.lt_or_ge j m with h' | h'
        · exact h j h'
        · rw [show j = m from by omega]; exact hm

theorem FirstAt.thereIs (p : Nat → Nat → Bool) (s : Nat → Nat) (m1 m2 : Nat) : ∃ (i j : Nat) (ok : Bool), FirstAt p s m1 m2 i j ok ∧ i ≤ m1 ∧ j ≤ m2 := by
  have inner := fun i => least_of (fun j => decide (s i ≤ j) && p i j) m2
  have noR : ∀ i, (∀ j, j < m2 → (decide (s i ≤ j) && p i j) = false) → ∀ j', s i ≤ j' → j' < m2 → p i j' = false := fun i h j' h1 h2 => by
    have := h j' h2
    rw [decide_eq_true h1, Bool.true_and] at this
    exact this
  rcases least_of (fun i => anyLt (fun j => decide (s i ≤ j) && p i j) m2) m1 with ⟨i, h1, h2, h3⟩ | h
  · rcases inner i with ⟨j, g1, g2, g3⟩ | g
    · rw [Bool.and_eq_true] at g2
      refine ⟨i, j, true, Or.inl ⟨rfl, h1, by simpa using g2.1, g1, g2.2, fun i' j' a b c => ?_, fun j' a b => ?_⟩, by omega, by omega⟩
      · refine noR i' (fun j hj => ?_) j' b c
        have := h3 i' a
        unfold anyLt at this
        rw [List.any_eq_false] at this
        simpa using this j (List.mem_range.2 hj)
      · have := g3 j' b
        rw [decide_eq_true a, Bool.true_and] at this
        exact this
    · rw [anyLt_false g] at h2; cases h2
  · refine ⟨0, 0, false, Or.inr ⟨rfl, rfl, rfl, fun i' j' a b c => ?_⟩, by omega, by omega⟩
    refine noR i' (fun j hj => ?_) j' b c
    have := h i' a
    unfold anyLt at this
    rw [List.any_eq_false] at this
    simpa using this j (List.mem_range.2 hj)

/-- Do the two sets share no word with a common bit? -/
def apart (W : Nat) (F G : Nat → Nat → Nat) (i j : Nat) : Bool := !anyLt (fun t => F i t &&& G j t != 0) W

theorem first_any (b1 b2 m1 m2 W : Nat) (F G : Nat → Nat → Nat) (same : Bool) (w : World) (N : Nat) (hm1 : m1 ≤ 1024) (hm2 : m2 ≤ 1024) (hW : W ≤ 3) (h1 : SetsAt w N b1 m1 W F) (h2 : SetsAt w N b2 m2 W G) (i0 j0 : Nat) (ok0 : Bool)
    (hF0 : FirstAt (apart W F G) (fun i => if same then i + 1 else 0) m1 m2 i0 j0 ok0) :
    Calls Ybad.prog 14 #[.slice (some ⟨b1, 0, none⟩) m1 m1, .slice (some ⟨b2, 0, none⟩) m2 m2, .bool same] w fun e w' => e = .returned (.tuple #[.int .i64 (i0 : Int), .int .i64 (j0 : Int), .bool ok0]) ∧ w' = w := by
  suffices h : Calls Ybad.prog 14 #[.slice (some ⟨b1, 0, none⟩) m1 m1, .slice (some ⟨b2, 0, none⟩) m2 m2, .bool same] w fun e w' => ∃ (i j : Nat) (ok : Bool), e = .returned (.tuple #[.int .i64 (i : Int), .int .i64 (j : Int), .bool ok]) ∧ FirstAt (apart W F G) (fun i => if same then i + 1 else 0) m1 m2 i j ok ∧ w' = w from
    h.mono fun e w' ⟨i, j, ok, he, hf, hw⟩ => by
      obtain ⟨rfl, rfl, rfl⟩ := hF0.unique hf
      exact ⟨he, hw⟩
  obtain ⟨_, fit1, blk1, q1, r1⟩ := h1
  obtain ⟨_, fit2, blk2, q2, r2⟩ := h2
  refine calls_of Ybad.func14 rfl Ybad.ntmps14 rfl ?_
  refine WC.seq (WC.region ?_)
  repeat (first | (refine WL.val ?_ ?_ (Runs.move rfl) ?_; rfl; rfl) | (refine WL.val ?_ ?_ (Runs.assign rfl) ?_; rfl; rfl) | (refine WL.val ?_ ?_ (Runs.extract rfl rfl) ?_; rfl; rfl) | (refine WL.val ?_ ?_ (Runs.nilCheck rfl) ?_; rfl; rfl) | (refine WL.val ?_ ?_ (Runs.pickT rfl rfl) ?_; rfl; rfl) | (refine WL.val ?_ ?_ (Runs.pickF rfl rfl) ?_; rfl; rfl) | (refine WL.val ?_ ?_ (Runs.len rfl sl22) ?_; rfl; rfl) | (refine WL.val ?_ ?_ (Runs.len rfl sl23) ?_; rfl; rfl) | (refine WL.val ?_ ?_ (Runs.len rfl sl24) ?_; rfl; rfl) | (refine WL.val ?_ ?_ (Runs.len rfl sl26) ?_; rfl; rfl) | (refine WL.val ?_ ?_ (Runs.len rfl sl27) ?_; rfl; rfl) | (refine WL.val ?_ ?_ (Runs.len rfl sl48) ?_; rfl; rfl) | (refine WL.val ?_ ?_ (Runs.len rfl sl60) ?_; rfl; rfl) | (refine WL.pass ?_ ?_ ?_; rfl; rfl))
  refine WL.nil ?_
  repeat (first | refine AtExit.thenRet ?_ | refine AtExit.thenExit ?_ | refine AtExit.blockRet ?_ | refine AtExit.blockEnd ?_ | refine AtExit.blockExit ?_ | (refine AtExit.blockPast ?_ ?_; rfl))
  refine AtExit.go ?_
  refine WC.cut (α := Unit) (fun _ => []) (fun _ w' => w' = w ∧ ∀ i' j', i' < m1 → (fun i => if same then i + 1 else 0) i' ≤ j' → j' < m2 → apart W F G i' j' = false) ?_ ?_
  · refine WC.seq (WC.region ?_)
    repeat (first | (refine WL.val ?_ ?_ (Runs.move rfl) ?_; rfl; rfl) | (refine WL.val ?_ ?_ (Runs.assign rfl) ?_; rfl; rfl) | (refine WL.val ?_ ?_ (Runs.extract rfl rfl) ?_; rfl; rfl) | (refine WL.val ?_ ?_ (Runs.nilCheck rfl) ?_; rfl; rfl) | (refine WL.val ?_ ?_ (Runs.pickT rfl rfl) ?_; rfl; rfl) | (refine WL.val ?_ ?_ (Runs.pickF rfl rfl) ?_; rfl; rfl) | (refine WL.val ?_ ?_ (Runs.len rfl sl22) ?_; rfl; rfl) | (refine WL.val ?_ ?_ (Runs.len rfl sl23) ?_; rfl; rfl) | (refine WL.val ?_ ?_ (Runs.len rfl sl24) ?_; rfl; rfl) | (refine WL.val ?_ ?_ (Runs.len rfl sl26) ?_; rfl; rfl) | (refine WL.val ?_ ?_ (Runs.len rfl sl27) ?_; rfl; rfl) | (refine WL.val ?_ ?_ (Runs.len rfl sl48) ?_; rfl; rfl) | (refine WL.val ?_ ?_ (Runs.len rfl sl60) ?_; rfl; rfl) | (refine WL.pass ?_ ?_ ?_; rfl; rfl))
    refine WL.nil ?_
    repeat (first | refine AtExit.thenRet ?_ | refine AtExit.thenExit ?_ | refine AtExit.blockRet ?_ | refine AtExit.blockEnd ?_ | refine AtExit.blockExit ?_ | (refine AtExit.blockPast ?_ ?_; rfl))
    refine AtExit.go ?_
    refine WC.block ?_
    refine WC.loop (α := Nat) (fun k => [(1, .slice (some ⟨b2, 0, none⟩) m2 m2), (2, .bool same), (12, .slice (some ⟨b1, 0, none⟩) m1 m1), (13, .int .i64 (m1 : Int)), (14, .int .i64 (k : Int))])
      (fun k w' => w' = w ∧ k ≤ m1 ∧ ∀ i' j', i' < k → (fun i => if same then i + 1 else 0) i' ≤ j' → j' < m2 → apart W F G i' j' = false) (fun k => m1 - k) 0 (by repeat (first | exact Sub.nil _ | refine Sub.cons rfl ?_)) ⟨rfl, Nat.zero_le _, fun i' j' h => absurd h (Nat.not_lt_zero _)⟩ ?_
    rintro k w' ⟨rfl, hk, hno⟩
    refine WC.seq (WC.region ?_)
    by_cases hkm : k < m1
    · refine WL.val rfl rfl (Runs.lss rfl rfl (declt hkm)) ?_
      refine WL.nil ?_
      repeat (first | refine AtExit.thenRet ?_ | refine AtExit.thenExit ?_ | refine AtExit.blockRet ?_ | refine AtExit.blockEnd ?_ | refine AtExit.blockExit ?_ | (refine AtExit.blockPast ?_ ?_; rfl))
      refine AtExit.go ?_
      refine WC.seq (WC.condT rfl ?_)
      refine WC.skip ?_
      repeat (first | refine AtExit.thenRet ?_ | refine AtExit.thenExit ?_ | refine AtExit.blockRet ?_ | refine AtExit.blockEnd ?_ | refine AtExit.blockExit ?_ | (refine AtExit.blockPast ?_ ?_; rfl))
      refine AtExit.go ?_
      refine WC.cut (α := Unit) (fun _ => [(1, .slice (some ⟨b2, 0, none⟩) m2 m2), (2, .bool same), (12, .slice (some ⟨b1, 0, none⟩) m1 m1), (13, .int .i64 (m1 : Int)), (14, .int .i64 (k : Int))])
        (fun _ w2 => w2 = w' ∧ ∀ j', (fun i => if same then i + 1 else 0) k ≤ j' → j' < m2 → apart W F G k j' = false) ?_ ?_
      · refine WC.block ?_
        refine WC.seq (WC.region ?_)
        repeat (first | (refine WL.val ?_ ?_ (Runs.move rfl) ?_; rfl; rfl) | (refine WL.val ?_ ?_ (Runs.assign rfl) ?_; rfl; rfl) | (refine WL.val ?_ ?_ (Runs.extract rfl rfl) ?_; rfl; rfl) | (refine WL.val ?_ ?_ (Runs.nilCheck rfl) ?_; rfl; rfl) | (refine WL.val ?_ ?_ (Runs.pickT rfl rfl) ?_; rfl; rfl) | (refine WL.val ?_ ?_ (Runs.pickF rfl rfl) ?_; rfl; rfl) | (refine WL.val ?_ ?_ (Runs.len rfl sl22) ?_; rfl; rfl) | (refine WL.val ?_ ?_ (Runs.len rfl sl23) ?_; rfl; rfl) | (refine WL.val ?_ ?_ (Runs.len rfl sl24) ?_; rfl; rfl) | (refine WL.val ?_ ?_ (Runs.len rfl sl26) ?_; rfl; rfl) | (refine WL.val ?_ ?_ (Runs.len rfl sl27) ?_; rfl; rfl) | (refine WL.val ?_ ?_ (Runs.len rfl sl48) ?_; rfl; rfl) | (refine WL.val ?_ ?_ (Runs.len rfl sl60) ?_; rfl; rfl) | (refine WL.pass ?_ ?_ ?_; rfl; rfl))
        refine WL.val rfl rfl (Runs.idx1 rfl rfl Ybad.underlying26 sz60 rfl hkm) ?_
        refine WL.val rfl rfl (Runs.load rfl na60 (q1.cell0 hkm)) ?_
        repeat (first | (refine WL.val ?_ ?_ (Runs.move rfl) ?_; rfl; rfl) | (refine WL.val ?_ ?_ (Runs.assign rfl) ?_; rfl; rfl) | (refine WL.val ?_ ?_ (Runs.extract rfl rfl) ?_; rfl; rfl) | (refine WL.val ?_ ?_ (Runs.nilCheck rfl) ?_; rfl; rfl) | (refine WL.val ?_ ?_ (Runs.pickT rfl rfl) ?_; rfl; rfl) | (refine WL.val ?_ ?_ (Runs.pickF rfl rfl) ?_; rfl; rfl) | (refine WL.val ?_ ?_ (Runs.len rfl sl22) ?_; rfl; rfl) | (refine WL.val ?_ ?_ (Runs.len rfl sl23) ?_; rfl; rfl) | (refine WL.val ?_ ?_ (Runs.len rfl sl24) ?_; rfl; rfl) | (refine WL.val ?_ ?_ (Runs.len rfl sl26) ?_; rfl; rfl) | (refine WL.val ?_ ?_ (Runs.len rfl sl27) ?_; rfl; rfl) | (refine WL.val ?_ ?_ (Runs.len rfl sl48) ?_; rfl; rfl) | (refine WL.val ?_ ?_ (Runs.len rfl sl60) ?_; rfl; rfl) | (refine WL.pass ?_ ?_ ?_; rfl; rfl))
        refine WL.nil ?_
        repeat (first | refine AtExit.thenRet ?_ | refine AtExit.thenExit ?_ | refine AtExit.blockRet ?_ | refine AtExit.blockEnd ?_ | refine AtExit.blockExit ?_ | (refine AtExit.blockPast ?_ ?_; rfl))
        refine AtExit.go ?_
        refine WC.seq (WC.region ?_)
        repeat (first | (refine WL.val ?_ ?_ (Runs.move rfl) ?_; rfl; rfl) | (refine WL.val ?_ ?_ (Runs.assign rfl) ?_; rfl; rfl) | (refine WL.val ?_ ?_ (Runs.extract rfl rfl) ?_; rfl; rfl) | (refine WL.val ?_ ?_ (Runs.nilCheck rfl) ?_; rfl; rfl) | (refine WL.val ?_ ?_ (Runs.pickT rfl rfl) ?_; rfl; rfl) | (refine WL.val ?_ ?_ (Runs.pickF rfl rfl) ?_; rfl; rfl) | (refine WL.val ?_ ?_ (Runs.len rfl sl22) ?_; rfl; rfl) | (refine WL.val ?_ ?_ (Runs.len rfl sl23) ?_; rfl; rfl) | (refine WL.val ?_ ?_ (Runs.len rfl sl24) ?_; rfl; rfl) | (refine WL.val ?_ ?_ (Runs.len rfl sl26) ?_; rfl; rfl) | (refine WL.val ?_ ?_ (Runs.len rfl sl27) ?_; rfl; rfl) | (refine WL.val ?_ ?_ (Runs.len rfl sl48) ?_; rfl; rfl) | (refine WL.val ?_ ?_ (Runs.len rfl sl60) ?_; rfl; rfl) | (refine WL.pass ?_ ?_ ?_; rfl; rfl))
        refine WL.nil ?_
        repeat (first | refine AtExit.thenRet ?_ | refine AtExit.thenExit ?_ | refine AtExit.blockRet ?_ | refine AtExit.blockEnd ?_ | refine AtExit.blockExit ?_ | (refine AtExit.blockPast ?_ ?_; rfl))
        refine AtExit.go ?_
        refine WC.cut (α := Unit) (fun _ => [(1, .slice (some ⟨b2, 0, none⟩) m2 m2), (2, .bool same), (12, .slice (some ⟨b1, 0, none⟩) m1 m1), (13, .int .i64 (m1 : Int)), (14, .int .i64 (k : Int)), (9, .int .i64 (k : Int)),
            (10, .slice (some ⟨blk1 k, 0, none⟩) W W), (11, .int .i64 (((fun i => if same then i + 1 else 0) k : Nat) : Int))]) (fun _ w2 => w2 = w') ?_ ?_
        · refine WC.seq (WC.region ?_)
          repeat (first | (refine WL.val ?_ ?_ (Runs.move rfl) ?_; rfl; rfl) | (refine WL.val ?_ ?_ (Runs.assign rfl) ?_; rfl; rfl) | (refine WL.val ?_ ?_ (Runs.extract rfl rfl) ?_; rfl; rfl) | (refine WL.val ?_ ?_ (Runs.nilCheck rfl) ?_; rfl; rfl) | (refine WL.val ?_ ?_ (Runs.pickT rfl rfl) ?_; rfl; rfl) | (refine WL.val ?_ ?_ (Runs.pickF rfl rfl) ?_; rfl; rfl) | (refine WL.val ?_ ?_ (Runs.len rfl sl22) ?_; rfl; rfl) | (refine WL.val ?_ ?_ (Runs.len rfl sl23) ?_; rfl; rfl) | (refine WL.val ?_ ?_ (Runs.len rfl sl24) ?_; rfl; rfl) | (refine WL.val ?_ ?_ (Runs.len rfl sl26) ?_; rfl; rfl) | (refine WL.val ?_ ?_ (Runs.len rfl sl27) ?_; rfl; rfl) | (refine WL.val ?_ ?_ (Runs.len rfl sl48) ?_; rfl; rfl) | (refine WL.val ?_ ?_ (Runs.len rfl sl60) ?_; rfl; rfl) | (refine WL.pass ?_ ?_ ?_; rfl; rfl))
          refine WL.nil ?_
          repeat (first | refine AtExit.thenRet ?_ | refine AtExit.thenExit ?_ | refine AtExit.blockRet ?_ | refine AtExit.blockEnd ?_ | refine AtExit.blockExit ?_ | (refine AtExit.blockPast ?_ ?_; rfl))
          refine AtExit.go ?_
          cases same
          · refine WC.condF rfl ?_
            refine WC.skip ?_
            repeat (first | refine AtExit.thenRet ?_ | refine AtExit.thenExit ?_ | refine AtExit.blockRet ?_ | refine AtExit.blockEnd ?_ | refine AtExit.blockExit ?_ | (refine AtExit.blockPast ?_ ?_; rfl))
            refine AtExit.inv fun a ha => ⟨(), ha.sub (by repeat (first | exact Sub.nil _ | refine Sub.cons rfl ?_)), rfl⟩
          · refine WC.condT rfl ?_
            refine WC.region ?_
            repeat (first | (refine WL.val ?_ ?_ (Runs.move rfl) ?_; rfl; rfl) | (refine WL.val ?_ ?_ (Runs.assign rfl) ?_; rfl; rfl) | (refine WL.val ?_ ?_ (Runs.extract rfl rfl) ?_; rfl; rfl) | (refine WL.val ?_ ?_ (Runs.nilCheck rfl) ?_; rfl; rfl) | (refine WL.val ?_ ?_ (Runs.pickT rfl rfl) ?_; rfl; rfl) | (refine WL.val ?_ ?_ (Runs.pickF rfl rfl) ?_; rfl; rfl) | (refine WL.val ?_ ?_ (Runs.len rfl sl22) ?_; rfl; rfl) | (refine WL.val ?_ ?_ (Runs.len rfl sl23) ?_; rfl; rfl) | (refine WL.val ?_ ?_ (Runs.len rfl sl24) ?_; rfl; rfl) | (refine WL.val ?_ ?_ (Runs.len rfl sl26) ?_; rfl; rfl) | (refine WL.val ?_ ?_ (Runs.len rfl sl27) ?_; rfl; rfl) | (refine WL.val ?_ ?_ (Runs.len rfl sl48) ?_; rfl; rfl) | (refine WL.val ?_ ?_ (Runs.len rfl sl60) ?_; rfl; rfl) | (refine WL.pass ?_ ?_ ?_; rfl; rfl))
            refine WL.val rfl rfl (Runs.add rfl rfl (wadd (r := ((k + 1 : Nat) : Int)) (by omega) (by omega) (by omega))) ?_
            repeat (first | (refine WL.val ?_ ?_ (Runs.move rfl) ?_; rfl; rfl) | (refine WL.val ?_ ?_ (Runs.assign rfl) ?_; rfl; rfl) | (refine WL.val ?_ ?_ (Runs.extract rfl rfl) ?_; rfl; rfl) | (refine WL.val ?_ ?_ (Runs.nilCheck rfl) ?_; rfl; rfl) | (refine WL.val ?_ ?_ (Runs.pickT rfl rfl) ?_; rfl; rfl) | (refine WL.val ?_ ?_ (Runs.pickF rfl rfl) ?_; rfl; rfl) | (refine WL.val ?_ ?_ (Runs.len rfl sl22) ?_; rfl; rfl) | (refine WL.val ?_ ?_ (Runs.len rfl sl23) ?_; rfl; rfl) | (refine WL.val ?_ ?_ (Runs.len rfl sl24) ?_; rfl; rfl) | (refine WL.val ?_ ?_ (Runs.len rfl sl26) ?_; rfl; rfl) | (refine WL.val ?_ ?_ (Runs.len rfl sl27) ?_; rfl; rfl) | (refine WL.val ?_ ?_ (Runs.len rfl sl48) ?_; rfl; rfl) | (refine WL.val ?_ ?_ (Runs.len rfl sl60) ?_; rfl; rfl) | (refine WL.pass ?_ ?_ ?_; rfl; rfl))
            refine WL.nil ?_
            repeat (first | refine AtExit.thenRet ?_ | refine AtExit.thenExit ?_ | refine AtExit.blockRet ?_ | refine AtExit.blockEnd ?_ | refine AtExit.blockExit ?_ | (refine AtExit.blockPast ?_ ?_; rfl))
            refine AtExit.inv fun a ha => ⟨(), ha.sub (by repeat (first | exact Sub.nil _ | refine Sub.cons rfl ?_)), rfl⟩
        · rintro _ w2 rfl
          refine WC.block ?_
          refine WC.loop (α := Nat) (fun j => [(1, .slice (some ⟨b2, 0, none⟩) m2 m2), (2, .bool same), (12, .slice (some ⟨b1, 0, none⟩) m1 m1), (13, .int .i64 (m1 : Int)), (14, .int .i64 (k : Int)), (9, .int .i64 (k : Int)),
            (10, .slice (some ⟨blk1 k, 0, none⟩) W W), (11, .int .i64 (j : Int))]) (fun j w3 => w3 = w2 ∧ j ≤ m2 + 1024 ∧ (fun i => if same then i + 1 else 0) k ≤ j ∧ ∀ j', (fun i => if same then i + 1 else 0) k ≤ j' → j' < j → apart W F G k j' = false)
            (fun j => m2 + 1024 - j) _ (by repeat (first | exact Sub.nil _ | refine Sub.cons rfl ?_)) ⟨rfl, by dsimp only; split <;> omega, Nat.le_refl _, fun j' h h' => absurd h (by omega)⟩ ?_
          rintro j w3 ⟨rfl, hj1, hj2, hj3⟩
          refine WC.seq ?_
          refine WC.seq (WC.region ?_)
          repeat (first | (refine WL.val ?_ ?_ (Runs.move rfl) ?_; rfl; rfl) | (refine WL.val ?_ ?_ (Runs.assign rfl) ?_; rfl; rfl) | (refine WL.val ?_ ?_ (Runs.extract rfl rfl) ?_; rfl; rfl) | (refine WL.val ?_ ?_ (Runs.nilCheck rfl) ?_; rfl; rfl) | (refine WL.val ?_ ?_ (Runs.pickT rfl rfl) ?_; rfl; rfl) | (refine WL.val ?_ ?_ (Runs.pickF rfl rfl) ?_; rfl; rfl) | (refine WL.val ?_ ?_ (Runs.len rfl sl22) ?_; rfl; rfl) | (refine WL.val ?_ ?_ (Runs.len rfl sl23) ?_; rfl; rfl) | (refine WL.val ?_ ?_ (Runs.len rfl sl24) ?_; rfl; rfl) | (refine WL.val ?_ ?_ (Runs.len rfl sl26) ?_; rfl; rfl) | (refine WL.val ?_ ?_ (Runs.len rfl sl27) ?_; rfl; rfl) | (refine WL.val ?_ ?_ (Runs.len rfl sl48) ?_; rfl; rfl) | (refine WL.val ?_ ?_ (Runs.len rfl sl60) ?_; rfl; rfl) | (refine WL.pass ?_ ?_ ?_; rfl; rfl))
          by_cases hjm : j < m2
          · refine WL.val rfl rfl (Runs.lss rfl rfl (declt hjm)) ?_
            refine WL.nil ?_
            repeat (first | refine AtExit.thenRet ?_ | refine AtExit.thenExit ?_ | refine AtExit.blockRet ?_ | refine AtExit.blockEnd ?_ | refine AtExit.blockExit ?_ | (refine AtExit.blockPast ?_ ?_; rfl))
            refine AtExit.go ?_
            refine WC.condT rfl ?_
            refine WC.skip ?_
            repeat (first | refine AtExit.thenRet ?_ | refine AtExit.thenExit ?_ | refine AtExit.blockRet ?_ | refine AtExit.blockEnd ?_ | refine AtExit.blockExit ?_ | (refine AtExit.blockPast ?_ ?_; rfl))
            refine AtExit.go ?_
            refine WC.seq (WC.block ?_)
            refine WC.seq (WC.region ?_)
            repeat (first | (refine WL.val ?_ ?_ (Runs.move rfl) ?_; rfl; rfl) | (refine WL.val ?_ ?_ (Runs.assign rfl) ?_; rfl; rfl) | (refine WL.val ?_ ?_ (Runs.extract rfl rfl) ?_; rfl; rfl) | (refine WL.val ?_ ?_ (Runs.nilCheck rfl) ?_; rfl; rfl) | (refine WL.val ?_ ?_ (Runs.pickT rfl rfl) ?_; rfl; rfl) | (refine WL.val ?_ ?_ (Runs.pickF rfl rfl) ?_; rfl; rfl) | (refine WL.val ?_ ?_ (Runs.len rfl sl22) ?_; rfl; rfl) | (refine WL.val ?_ ?_ (Runs.len rfl sl23) ?_; rfl; rfl) | (refine WL.val ?_ ?_ (Runs.len rfl sl24) ?_; rfl; rfl) | (refine WL.val ?_ ?_ (Runs.len rfl sl26) ?_; rfl; rfl) | (refine WL.val ?_ ?_ (Runs.len rfl sl27) ?_; rfl; rfl) | (refine WL.val ?_ ?_ (Runs.len rfl sl48) ?_; rfl; rfl) | (refine WL.val ?_ ?_ (Runs.len rfl sl60) ?_; rfl; rfl) | (refine WL.pass ?_ ?_ ?_; rfl; rfl))
            refine WL.val rfl rfl (Runs.idx1 rfl rfl Ybad.underlying26 sz60 rfl hjm) ?_
            refine WL.val rfl rfl (Runs.load rfl na60 (q2.cell0 hjm)) ?_
            refine WL.call rfl rfl (RunsC.call rfl en16) (inter_any (blk1 k) 0 W (blk2 j) 0 W W W (F k) (G j) w3 (Nat.le_refl _) (by omega) (fun t ht => (r1 k hkm).2.cell0 ht) (fun t ht => (r2 j hjm).2.cell0 ht) (fun t _ => fit1 k t) (fun t _ => fit2 j t)) ?_
            rintro e w4 ⟨rfl, rfl⟩
            refine ⟨_, rfl, ?_⟩
            refine WL.val rfl rfl (Runs.not rfl) ?_
            refine WL.nil ?_
            repeat (first | refine AtExit.thenRet ?_ | refine AtExit.thenExit ?_ | refine AtExit.blockRet ?_ | refine AtExit.blockEnd ?_ | refine AtExit.blockExit ?_ | (refine AtExit.blockPast ?_ ?_; rfl))
            refine AtExit.go ?_
            cases hap : anyLt (fun t => F k t &&& G j t != 0) W with
            | true =>
              refine WC.condF rfl ?_
              refine WC.skip ?_
              repeat (first | refine AtExit.thenRet ?_ | refine AtExit.thenExit ?_ | refine AtExit.blockRet ?_ | refine AtExit.blockEnd ?_ | refine AtExit.blockExit ?_ | (refine AtExit.blockPast ?_ ?_; rfl))
              refine AtExit.go ?_
              refine WC.region ?_
              repeat (first | (refine WL.val ?_ ?_ (Runs.move rfl) ?_; rfl; rfl) | (refine WL.val ?_ ?_ (Runs.assign rfl) ?_; rfl; rfl) | (refine WL.val ?_ ?_ (Runs.extract rfl rfl) ?_; rfl; rfl) | (refine WL.val ?_ ?_ (Runs.nilCheck rfl) ?_; rfl; rfl) | (refine WL.val ?_ ?_ (Runs.pickT rfl rfl) ?_; rfl; rfl) | (refine WL.val ?_ ?_ (Runs.pickF rfl rfl) ?_; rfl; rfl) | (refine WL.val ?_ ?_ (Runs.len rfl sl22) ?_; rfl; rfl) | (refine WL.val ?_ ?_ (Runs.len rfl sl23) ?_; rfl; rfl) | (refine WL.val ?_ ?_ (Runs.len rfl sl24) ?_; rfl; rfl) | (refine WL.val ?_ ?_ (Runs.len rfl sl26) ?_; rfl; rfl) | (refine WL.val ?_ ?_ (Runs.len rfl sl27) ?_; rfl; rfl) | (refine WL.val ?_ ?_ (Runs.len rfl sl48) ?_; rfl; rfl) | (refine WL.val ?_ ?_ (Runs.len rfl sl60) ?_; rfl; rfl) | (refine WL.pass ?_ ?_ ?_; rfl; rfl))
              refine WL.val rfl rfl (Runs.add rfl rfl (wadd (r := ((j + 1 : Nat) : Int)) (by omega) (by omega) (by omega))) ?_
              repeat (first | (refine WL.val ?_ ?_ (Runs.move rfl) ?_; rfl; rfl) | (refine WL.val ?_ ?_ (Runs.assign rfl) ?_; rfl; rfl) | (refine WL.val ?_ ?_ (Runs.extract rfl rfl) ?_; rfl; rfl) | (refine WL.val ?_ ?_ (Runs.nilCheck rfl) ?_; rfl; rfl) | (refine WL.val ?_ ?_ (Runs.pickT rfl rfl) ?_; rfl; rfl) | (refine WL.val ?_ ?_ (Runs.pickF rfl rfl) ?_; rfl; rfl) | (refine WL.val ?_ ?_ (Runs.len rfl sl22) ?_; rfl; rfl) | (refine WL.val ?_ ?_ (Runs.len rfl sl23) ?_; rfl; rfl) | (refine WL.val ?_ ?_ (Runs.len rfl sl24) ?_; rfl; rfl) | (refine WL.val ?_ ?_ (Runs.len rfl sl26) ?_; rfl; rfl) | (refine WL.val ?_ ?_ (Runs.len rfl sl27) ?_; rfl; rfl) | (refine WL.val ?_ ?_ (Runs.len rfl sl48) ?_; rfl; rfl) | (refine WL.val ?_ ?_ (Runs.len rfl sl60) ?_; rfl; rfl) | (refine WL.pass ?_ ?_ ?_; rfl; rfl))
              refine WL.nil ?_
              repeat (first | refine AtExit.thenRet ?_ | refine AtExit.thenExit ?_ | refine AtExit.blockRet ?_ | refine AtExit.blockEnd ?_ | refine AtExit.blockExit ?_ | (refine AtExit.blockPast ?_ ?_; rfl))
              refine AtExit.inv fun a ha => ⟨j + 1, ha.sub (by repeat (first | exact Sub.nil _ | refine Sub.cons rfl ?_)), ⟨rfl, by omega, by omega, fun j' a b => ?_⟩, by omega⟩
              by_cases h : j' < j
              · exact hj3 j' a h
              · rw [show j' = j from by omega]; unfold apart; rw [hap]; rfl
            | false =>
              refine WC.condT rfl ?_
              refine WC.seq (WC.region ?_)
              repeat (first | (refine WL.val ?_ ?_ (Runs.move rfl) ?_; rfl; rfl) | (refine WL.val ?_ ?_ (Runs.assign rfl) ?_; rfl; rfl) | (refine WL.val ?_ ?_ (Runs.extract rfl rfl) ?_; rfl; rfl) | (refine WL.val ?_ ?_ (Runs.nilCheck rfl) ?_; rfl; rfl) | (refine WL.val ?_ ?_ (Runs.pickT rfl rfl) ?_; rfl; rfl) | (refine WL.val ?_ ?_ (Runs.pickF rfl rfl) ?_; rfl; rfl) | (refine WL.val ?_ ?_ (Runs.len rfl sl22) ?_; rfl; rfl) | (refine WL.val ?_ ?_ (Runs.len rfl sl23) ?_; rfl; rfl) | (refine WL.val ?_ ?_ (Runs.len rfl sl24) ?_; rfl; rfl) | (refine WL.val ?_ ?_ (Runs.len rfl sl26) ?_; rfl; rfl) | (refine WL.val ?_ ?_ (Runs.len rfl sl27) ?_; rfl; rfl) | (refine WL.val ?_ ?_ (Runs.len rfl sl48) ?_; rfl; rfl) | (refine WL.val ?_ ?_ (Runs.len rfl sl60) ?_; rfl; rfl) | (refine WL.pass ?_ ?_ ?_; rfl; rfl))
              refine WL.nil ?_
              repeat (first | refine AtExit.thenRet ?_ | refine AtExit.thenExit ?_ | refine AtExit.blockRet ?_ | refine AtExit.blockEnd ?_ | refine AtExit.blockExit ?_ | (refine AtExit.blockPast ?_ ?_; rfl))
              refine AtExit.go ?_
              refine WC.ret ?_
              repeat (first | refine AtExit.thenRet ?_ | refine AtExit.thenExit ?_ | refine AtExit.blockRet ?_ | refine AtExit.blockEnd ?_ | refine AtExit.blockExit ?_ | (refine AtExit.blockPast ?_ ?_; rfl))
              exact post3 rfl rfl rfl rfl ⟨k, j, true, rfl, Or.inl ⟨rfl, hkm, hj2, hjm, by unfold apart; rw [hap]; rfl, hno, hj3⟩, rfl⟩
          · refine WL.val rfl rfl (Runs.lss rfl rfl (decge hjm)) ?_
            refine WL.nil ?_
            repeat (first | refine AtExit.thenRet ?_ | refine AtExit.thenExit ?_ | refine AtExit.blockRet ?_ | refine AtExit.blockEnd ?_ | refine AtExit.blockExit ?_ | (refine AtExit.blockPast ?_ ?_; rfl))
            refine AtExit.go ?_
            refine WC.condF rfl ?_
            refine WC.exit ?_
            repeat (first | refine AtExit.thenRet ?_ | refine AtExit.thenExit ?_ | refine AtExit.blockRet ?_ | refine AtExit.blockEnd ?_ | refine AtExit.blockExit ?_ | (refine AtExit.blockPast ?_ ?_; rfl))
            refine AtExit.inv fun a ha => ⟨(), ha.sub (by repeat (first | exact Sub.nil _ | refine Sub.cons rfl ?_)), rfl, fun j' a b => hj3 j' a (by omega)⟩
      · rintro _ w2 ⟨rfl, hk2⟩
        refine WC.region ?_
        refine WL.val rfl rfl (Runs.add rfl rfl (wadd (r := ((k + 1 : Nat) : Int)) (by omega) (by omega) (by omega))) ?_
        repeat (first | (refine WL.val ?_ ?_ (Runs.move rfl) ?_; rfl; rfl) | (refine WL.val ?_ ?_ (Runs.assign rfl) ?_; rfl; rfl) | (refine WL.val ?_ ?_ (Runs.extract rfl rfl) ?_; rfl; rfl) | (refine WL.val ?_ ?_ (Runs.nilCheck rfl) ?_; rfl; rfl) | (refine WL.val ?_ ?_ (Runs.pickT rfl rfl) ?_; rfl; rfl) | (refine WL.val ?_ ?_ (Runs.pickF rfl rfl) ?_; rfl; rfl) | (refine WL.val ?_ ?_ (Runs.len rfl sl22) ?_; rfl; rfl) | (refine WL.val ?_ ?_ (Runs.len rfl sl23) ?_; rfl; rfl) | (refine WL.val ?_ ?_ (Runs.len rfl sl24) ?_; rfl; rfl) | (refine WL.val ?_ ?_ (Runs.len rfl sl26) ?_; rfl; rfl) | (refine WL.val ?_ ?_ (Runs.len rfl sl27) ?_; rfl; rfl) | (refine WL.val ?_ ?_ (Runs.len rfl sl48) ?_; rfl; rfl) | (refine WL.val ?_ ?_ (Runs.len rfl sl60) ?_; rfl; rfl) | (refine WL.pass ?_ ?_ ?_; rfl; rfl))
        refine WL.nil ?_
        repeat (first | refine AtExit.thenRet ?_ | refine AtExit.thenExit ?_ | refine AtExit.blockRet ?_ | refine AtExit.blockEnd ?_ | refine AtExit.blockExit ?_ | (refine AtExit.blockPast ?_ ?_; rfl))
        refine AtExit.inv fun a ha => ⟨k + 1, ha.sub (by repeat (first | exact Sub.nil _ | refine Sub.cons rfl ?_)), ⟨rfl, by omega, fun i' j' a b c => ?_⟩, by omega⟩
        by_cases h : i' < k
        · exact hno i' j' h b c
        · obtain rfl : i' = k := by omega
          exact hk2 j' b c
    · refine WL.val rfl rfl (Runs.lss rfl rfl (decge hkm)) ?_
      refine WL.nil ?_
      repeat (first | refine AtExit.thenRet ?_ | refine AtExit.thenExit ?_ | refine AtExit.blockRet ?_ | refine AtExit.blockEnd ?_ | refine AtExit.blockExit ?_ | (refine AtExit.blockPast ?_ ?_; rfl))
      refine AtExit.go ?_
      refine WC.seq (WC.condF rfl ?_)
      refine WC.exit ?_
      repeat (first | refine AtExit.thenRet ?_ | refine AtExit.thenExit ?_ | refine AtExit.blockRet ?_ | refine AtExit.blockEnd ?_ | refine AtExit.blockExit ?_ | (refine AtExit.blockPast ?_ ?_; rfl))
      refine AtExit.inv fun a ha => ⟨(), ha.sub (Sub.nil _), rfl, fun i' j' a b c => hno i' j' (by omega) b c⟩
  · rintro _ w' ⟨rfl, h0⟩
    refine WC.seq (WC.region ?_)
    repeat (first | (refine WL.val ?_ ?_ (Runs.move rfl) ?_; rfl; rfl) | (refine WL.val ?_ ?_ (Runs.assign rfl) ?_; rfl; rfl) | (refine WL.val ?_ ?_ (Runs.extract rfl rfl) ?_; rfl; rfl) | (refine WL.val ?_ ?_ (Runs.nilCheck rfl) ?_; rfl; rfl) | (refine WL.val ?_ ?_ (Runs.pickT rfl rfl) ?_; rfl; rfl) | (refine WL.val ?_ ?_ (Runs.pickF rfl rfl) ?_; rfl; rfl) | (refine WL.val ?_ ?_ (Runs.len rfl sl22) ?_; rfl; rfl) | (refine WL.val ?_ ?_ (Runs.len rfl sl23) ?_; rfl; rfl) | (refine WL.val ?_ ?_ (Runs.len rfl sl24) ?_; rfl; rfl) | (refine WL.val ?_ ?_ (Runs.len rfl sl26) ?_; rfl; rfl) | (refine WL.val ?_ ?_ (Runs.len rfl sl27) ?_; rfl; rfl) | (refine WL.val ?_ ?_ (Runs.len rfl sl48) ?_; rfl; rfl) | (refine WL.val ?_ ?_ (Runs.len rfl sl60) ?_; rfl; rfl) | (refine WL.pass ?_ ?_ ?_; rfl; rfl))
    refine WL.nil ?_
    repeat (first | refine AtExit.thenRet ?_ | refine AtExit.thenExit ?_ | refine AtExit.blockRet ?_ | refine AtExit.blockEnd ?_ | refine AtExit.blockExit ?_ | (refine AtExit.blockPast ?_ ?_; rfl))
    refine AtExit.go ?_
    refine WC.ret ?_
    repeat (first | refine AtExit.thenRet ?_ | refine AtExit.thenExit ?_ | refine AtExit.blockRet ?_ | refine AtExit.blockEnd ?_ | refine AtExit.blockExit ?_ | (refine AtExit.blockPast ?_ ?_; rfl))
    exact post3 rfl rfl rfl rfl ⟨0, 0, false, rfl, Or.inr ⟨rfl, rfl, rfl, h0⟩, rfl⟩
end Go.Proofs.YbulkgfagDoor
