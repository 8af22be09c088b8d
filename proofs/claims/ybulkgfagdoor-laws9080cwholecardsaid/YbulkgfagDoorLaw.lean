/- The law itself. -/
import Derived.Test.YbulkgfagDoorDisjoint
namespace Go.Proofs.YbulkgfagDoor
open Go Go.Fr Go.RowKit

theorem SetsAt.up {w w' : World} {b m W : Nat} {F : Nat → Nat → Nat} (h : SetsAt w w.heap.size b m W F) (hB : Below w.heap.size w w') : SetsAt w' w'.heap.size b m W F := by
  obtain ⟨h1, h2, blk, h3, h4⟩ := h.below hB
  exact ⟨Nat.lt_of_lt_of_le h1 hB.size, h2, blk, h3, fun k hk => ⟨Nat.lt_of_lt_of_le (h4 k hk).1 hB.size, (h4 k hk).2⟩⟩
theorem BoolsAt.up {w w' : World} {b m n : Nat} {G : Nat → Nat → Bool} (h : BoolsAt w w.heap.size b m n G) (hB : Below w.heap.size w w') : BoolsAt w' w'.heap.size b m n G := by
  obtain ⟨h1, blk, h3, h4⟩ := h.below hB
  exact ⟨Nat.lt_of_lt_of_le h1 hB.size, blk, h3, fun k hk => ⟨Nat.lt_of_lt_of_le (h4 k hk).1 hB.size, (h4 k hk).2⟩⟩
theorem RowsAt.up {w w' : World} {A : Option Addr} {m : Nat} {R : Nat → List Nat} (h : RowsAt w w.heap.size A m R) (hB : Below w.heap.size w w') : RowsAt w' w'.heap.size A m R := by
  intro k hk
  have hs := hB.size
  obtain ⟨b, o, Ak, Ck, h1, h2, h3, h4⟩ := h.below hB k hk
  refine ⟨b, o, Ak, Ck, h1, by omega, h3, fun i x hx => ?_⟩
  obtain ⟨h5, b', o', h6, h7, h8⟩ := h4 i x hx
  exact ⟨h5, b', o', h6, by omega, h8⟩
theorem Below.up {w w' w'' : World} (h : Below w.heap.size w w') (h' : Below w'.heap.size w' w'') : Below w.heap.size w w'' := h.trans (h'.mono h.size)

/-- The first k rows' lengths together. -/
def sumL (R : Nat → List Nat) : Nat → Nat
  | 0 => 0
  | k + 1 => sumL R k + (R k).length
theorem sumL_le {R : Nat → List Nat} {m : Nat} (h : ∀ k, k < m → (R k).length ≤ 140737488355328) : ∀ k, k ≤ m → sumL R k ≤ k * 140737488355328
  | 0, _ => by simp [sumL]
  | k + 1, hk => by
    have := sumL_le h k (by omega)
    have := h k (by omega)
    rw [sumL]; omega
theorem len_le_sum (R : Nat → List Nat) : ∀ (m k : Nat), k < m → (R k).length ≤ sumL R m
  | 0, k, h => absurd h (Nat.not_lt_zero _)
  | m + 1, k, h => by
    rw [sumL]
    by_cases hk : k = m
    · rw [hk]; omega
    · have := len_le_sum R m k (by omega)
      omega

theorem dec_one : dec 1 = ⟨#[49]⟩ := by
  unfold dec
  rw [Lib.decDigits_one (by decide)]
  rfl

/-- What the law's own search holds behind k rows. -/
def Sofar (p : Nat → Nat → Bool) (s : Nat → Nat) (m1 m2 : Nat) (x y : ByteArray) (k : Nat) (ok : Bool) (ea eb : ByteArray) : Prop :=
  (ok = false ∧ ea = x ++ dec 1 ∧ eb = y ++ dec 1 ∧ ∀ i' j', i' < k → s i' ≤ j' → j' < m2 → p i' j' = false) ∨
  (ok = true ∧ ∃ i1 j1, ea = x ++ dec (i1 + 1) ∧ eb = y ++ dec (j1 + 1) ∧ FirstAt p s m1 m2 i1 j1 true)
theorem Sofar.fin {p : Nat → Nat → Bool} {s : Nat → Nat} {m1 m2 : Nat} {x y : ByteArray} {k : Nat} {ok : Bool} {ea eb : ByteArray} (h : Sofar p s m1 m2 x y k ok ea eb) (hk : ok = false → m1 ≤ k) {i0 j0 : Nat} {ok0 : Bool} (hF : FirstAt p s m1 m2 i0 j0 ok0) :
    ok = ok0 ∧ ea = x ++ dec (i0 + 1) ∧ eb = y ++ dec (j0 + 1) := by
  rcases h with ⟨h0, h1, h2, h3⟩ | ⟨h0, i1, j1, h1, h2, h3⟩
  · have hF' : FirstAt p s m1 m2 0 0 false := Or.inr ⟨rfl, rfl, rfl, fun i' j' a b c => h3 i' j' (by have := hk h0; omega) b c⟩
    obtain ⟨rfl, rfl, rfl⟩ := hF.unique hF'
    exact ⟨h0, h1, h2⟩
  · obtain ⟨rfl, rfl, rfl⟩ := hF.unique h3
    exact ⟨h0, h1, h2⟩

theorem apart_eq (n : Nat) (hn : 0 < n) (R R' : Nat → List Nat) (i j : Nat) : apart ((n + 63) / 64) (fun k j => wordOf n (R k) j) (fun k j => wordOf n (R' k) j) i j = !anyLt (fun v => memOf n (R i) v && memOf n (R' j) v) n := by
  unfold apart
  rw [meet_iff n hn]

theorem q1_eq : (⟨#[81, 49]⟩ : ByteArray) = ⟨#[81]⟩ ++ dec 1 := by rw [dec_one]; decide

/-- Two new blocks. -/
theorem two_new (w : World) (A B : Obj) : ((w.alloc A).alloc B).heap[w.heap.size]? = some A ∧ ((w.alloc A).alloc B).heap[w.heap.size + 1]? = some B ∧ Below w.heap.size w ((w.alloc A).alloc B) := by
  refine ⟨heap_old (heap_new w A), ?_, (below_new w A (Nat.le_refl _)).trans (below_new _ B (by rw [size_new]; omega))⟩
  have := heap_new (w.alloc A) B
  rwa [size_new] at this
theorem four_new (w : World) (A B C D : Obj) : ((((w.alloc A).alloc B).alloc C).alloc D).heap[w.heap.size]? = some A ∧ ((((w.alloc A).alloc B).alloc C).alloc D).heap[w.heap.size + 1]? = some B ∧
    ((((w.alloc A).alloc B).alloc C).alloc D).heap[w.heap.size + 2]? = some C ∧ ((((w.alloc A).alloc B).alloc C).alloc D).heap[w.heap.size + 3]? = some D ∧ Below w.heap.size w ((((w.alloc A).alloc B).alloc C).alloc D) := by
  obtain ⟨h1, h2, h3⟩ := two_new w A B
  obtain ⟨g1, g2, g3⟩ := two_new ((w.alloc A).alloc B) C D
  rw [size_new, size_new] at g1 g2 g3
  exact ⟨below_heap g3 (by omega) h1, below_heap g3 (by omega) h2, g1, g2, h3.trans (g3.mono (by omega))⟩
theorem concrete51 : Ybad.prog.concrete 51 = true := by kernel_rfl
theorem pt32 : Ybad.prog.underlying 32 = some (.pointer (Ybad.prog.pointee 32)) := by kernel_rfl

theorem dgt {a : Nat} (h : 1024 < a) : decide ((1024 : Int) < (a : Int)) = true := by rw [decide_eq_true_eq]; omega
theorem dle {a : Nat} (h : ¬ 1024 < a) : decide ((1024 : Int) < (a : Int)) = false := by rw [decide_eq_false_iff_not]; omega

set_option maxRecDepth 4000 in
set_option maxHeartbeats 2000000 in
theorem law_any (mo nd : Nat) (Aq Ar Aw : Option Addr) (mq Cq mr Cr mw Cw : Nat) (Rq Rr Rw : Nat → List Nat) (rl wl : ByteArray) (w : World) (hnd : nd < 256) (ht : Tab w)
    (hq : RowsAt w w.heap.size Aq mq Rq) (hr : RowsAt w w.heap.size Ar mr Rr) (hw : RowsAt w w.heap.size Aw mw Rw)
    (lq : ∀ k, k < mq → (Rq k).length ≤ 140737488355328) (lr : ∀ k, k < mr → (Rr k).length ≤ 140737488355328) (lw : ∀ k, k < mw → (Rw k).length ≤ 140737488355328) (hrl : rl.size ≤ 1000000000000000) (hwl : wl.size ≤ 1000000000000000) :
    Calls Ybad.prog 3 #[.int .u8 (mo : Int), .int .u8 (nd : Int), .slice Aq mq Cq, .slice Ar mr Cr, .slice Aw mw Cw, .string rl, .string wl] w fun e w' => e = .returned (.bool true) ∧ Below w.heap.size w w' := by
  refine calls_of Ybad.func3 rfl Ybad.ntmps3 rfl ?_
  refine WC.seq (WC.region ?_)
  repeat (first | (refine WL.val ?_ ?_ (Runs.move rfl) ?_; rfl; rfl) | (refine WL.val ?_ ?_ (Runs.assign rfl) ?_; rfl; rfl) | (refine WL.val ?_ ?_ (Runs.extract rfl rfl) ?_; rfl; rfl) | (refine WL.val ?_ ?_ (Runs.nilCheck rfl) ?_; rfl; rfl) | (refine WL.val ?_ ?_ (Runs.pickT rfl rfl) ?_; rfl; rfl) | (refine WL.val ?_ ?_ (Runs.pickF rfl rfl) ?_; rfl; rfl) | (refine WL.val ?_ ?_ (Runs.len rfl sl22) ?_; rfl; rfl) | (refine WL.val ?_ ?_ (Runs.len rfl sl23) ?_; rfl; rfl) | (refine WL.val ?_ ?_ (Runs.len rfl sl24) ?_; rfl; rfl) | (refine WL.val ?_ ?_ (Runs.len rfl sl26) ?_; rfl; rfl) | (refine WL.val ?_ ?_ (Runs.len rfl sl27) ?_; rfl; rfl) | (refine WL.val ?_ ?_ (Runs.len rfl sl48) ?_; rfl; rfl) | (refine WL.val ?_ ?_ (Runs.len rfl sl60) ?_; rfl; rfl) | (refine WL.pass ?_ ?_ ?_; rfl; rfl))
  refine WL.nil ?_
  repeat (first | refine AtExit.thenRet ?_ | refine AtExit.thenExit ?_ | refine AtExit.blockRet ?_ | refine AtExit.blockEnd ?_ | refine AtExit.blockExit ?_ | (refine AtExit.blockPast ?_ ?_; rfl))
  refine AtExit.go ?_
  refine WC.seq ?_
  refine WC.seq (WC.region ?_)
  repeat (first | (refine WL.val ?_ ?_ (Runs.move rfl) ?_; rfl; rfl) | (refine WL.val ?_ ?_ (Runs.assign rfl) ?_; rfl; rfl) | (refine WL.val ?_ ?_ (Runs.extract rfl rfl) ?_; rfl; rfl) | (refine WL.val ?_ ?_ (Runs.nilCheck rfl) ?_; rfl; rfl) | (refine WL.val ?_ ?_ (Runs.pickT rfl rfl) ?_; rfl; rfl) | (refine WL.val ?_ ?_ (Runs.pickF rfl rfl) ?_; rfl; rfl) | (refine WL.val ?_ ?_ (Runs.len rfl sl22) ?_; rfl; rfl) | (refine WL.val ?_ ?_ (Runs.len rfl sl23) ?_; rfl; rfl) | (refine WL.val ?_ ?_ (Runs.len rfl sl24) ?_; rfl; rfl) | (refine WL.val ?_ ?_ (Runs.len rfl sl26) ?_; rfl; rfl) | (refine WL.val ?_ ?_ (Runs.len rfl sl27) ?_; rfl; rfl) | (refine WL.val ?_ ?_ (Runs.len rfl sl48) ?_; rfl; rfl) | (refine WL.val ?_ ?_ (Runs.len rfl sl60) ?_; rfl; rfl) | (refine WL.pass ?_ ?_ ?_; rfl; rfl))
  by_cases hq1 : 1024 < mq
  · refine WL.val rfl rfl (Runs.gtr rfl rfl (dgt hq1)) ?_
    repeat (first | (refine WL.val ?_ ?_ (Runs.move rfl) ?_; rfl; rfl) | (refine WL.val ?_ ?_ (Runs.assign rfl) ?_; rfl; rfl) | (refine WL.val ?_ ?_ (Runs.extract rfl rfl) ?_; rfl; rfl) | (refine WL.val ?_ ?_ (Runs.nilCheck rfl) ?_; rfl; rfl) | (refine WL.val ?_ ?_ (Runs.pickT rfl rfl) ?_; rfl; rfl) | (refine WL.val ?_ ?_ (Runs.pickF rfl rfl) ?_; rfl; rfl) | (refine WL.val ?_ ?_ (Runs.len rfl sl22) ?_; rfl; rfl) | (refine WL.val ?_ ?_ (Runs.len rfl sl23) ?_; rfl; rfl) | (refine WL.val ?_ ?_ (Runs.len rfl sl24) ?_; rfl; rfl) | (refine WL.val ?_ ?_ (Runs.len rfl sl26) ?_; rfl; rfl) | (refine WL.val ?_ ?_ (Runs.len rfl sl27) ?_; rfl; rfl) | (refine WL.val ?_ ?_ (Runs.len rfl sl48) ?_; rfl; rfl) | (refine WL.val ?_ ?_ (Runs.len rfl sl60) ?_; rfl; rfl) | (refine WL.pass ?_ ?_ ?_; rfl; rfl))
    refine WL.nil ?_
    repeat (first | refine AtExit.thenRet ?_ | refine AtExit.thenExit ?_ | refine AtExit.blockRet ?_ | refine AtExit.blockEnd ?_ | refine AtExit.blockExit ?_ | (refine AtExit.blockPast ?_ ?_; rfl))
    refine AtExit.go ?_
    refine WC.condT rfl ?_
    refine WC.seq (WC.region ?_)
    repeat (first | (refine WL.val ?_ ?_ (Runs.move rfl) ?_; rfl; rfl) | (refine WL.val ?_ ?_ (Runs.assign rfl) ?_; rfl; rfl) | (refine WL.val ?_ ?_ (Runs.extract rfl rfl) ?_; rfl; rfl) | (refine WL.val ?_ ?_ (Runs.nilCheck rfl) ?_; rfl; rfl) | (refine WL.val ?_ ?_ (Runs.pickT rfl rfl) ?_; rfl; rfl) | (refine WL.val ?_ ?_ (Runs.pickF rfl rfl) ?_; rfl; rfl) | (refine WL.val ?_ ?_ (Runs.len rfl sl22) ?_; rfl; rfl) | (refine WL.val ?_ ?_ (Runs.len rfl sl23) ?_; rfl; rfl) | (refine WL.val ?_ ?_ (Runs.len rfl sl24) ?_; rfl; rfl) | (refine WL.val ?_ ?_ (Runs.len rfl sl26) ?_; rfl; rfl) | (refine WL.val ?_ ?_ (Runs.len rfl sl27) ?_; rfl; rfl) | (refine WL.val ?_ ?_ (Runs.len rfl sl48) ?_; rfl; rfl) | (refine WL.val ?_ ?_ (Runs.len rfl sl60) ?_; rfl; rfl) | (refine WL.pass ?_ ?_ ?_; rfl; rfl))
    refine WL.nil ?_
    repeat (first | refine AtExit.thenRet ?_ | refine AtExit.thenExit ?_ | refine AtExit.blockRet ?_ | refine AtExit.blockEnd ?_ | refine AtExit.blockExit ?_ | (refine AtExit.blockPast ?_ ?_; rfl))
    refine AtExit.go ?_
    refine WC.ret ?_
    repeat (first | refine AtExit.thenRet ?_ | refine AtExit.thenExit ?_ | refine AtExit.blockRet ?_ | refine AtExit.blockEnd ?_ | refine AtExit.blockExit ?_ | (refine AtExit.blockPast ?_ ?_; rfl))
    exact post1 rfl rfl ⟨rfl, Below.refl _ _⟩
  refine WL.val rfl rfl (Runs.gtr rfl rfl (dle hq1)) ?_
  repeat (first | (refine WL.val ?_ ?_ (Runs.move rfl) ?_; rfl; rfl) | (refine WL.val ?_ ?_ (Runs.assign rfl) ?_; rfl; rfl) | (refine WL.val ?_ ?_ (Runs.extract rfl rfl) ?_; rfl; rfl) | (refine WL.val ?_ ?_ (Runs.nilCheck rfl) ?_; rfl; rfl) | (refine WL.val ?_ ?_ (Runs.pickT rfl rfl) ?_; rfl; rfl) | (refine WL.val ?_ ?_ (Runs.pickF rfl rfl) ?_; rfl; rfl) | (refine WL.val ?_ ?_ (Runs.len rfl sl22) ?_; rfl; rfl) | (refine WL.val ?_ ?_ (Runs.len rfl sl23) ?_; rfl; rfl) | (refine WL.val ?_ ?_ (Runs.len rfl sl24) ?_; rfl; rfl) | (refine WL.val ?_ ?_ (Runs.len rfl sl26) ?_; rfl; rfl) | (refine WL.val ?_ ?_ (Runs.len rfl sl27) ?_; rfl; rfl) | (refine WL.val ?_ ?_ (Runs.len rfl sl48) ?_; rfl; rfl) | (refine WL.val ?_ ?_ (Runs.len rfl sl60) ?_; rfl; rfl) | (refine WL.pass ?_ ?_ ?_; rfl; rfl))
  by_cases hr1 : 1024 < mr
  · refine WL.val rfl rfl (Runs.gtr rfl rfl (dgt hr1)) ?_
    repeat (first | (refine WL.val ?_ ?_ (Runs.move rfl) ?_; rfl; rfl) | (refine WL.val ?_ ?_ (Runs.assign rfl) ?_; rfl; rfl) | (refine WL.val ?_ ?_ (Runs.extract rfl rfl) ?_; rfl; rfl) | (refine WL.val ?_ ?_ (Runs.nilCheck rfl) ?_; rfl; rfl) | (refine WL.val ?_ ?_ (Runs.pickT rfl rfl) ?_; rfl; rfl) | (refine WL.val ?_ ?_ (Runs.pickF rfl rfl) ?_; rfl; rfl) | (refine WL.val ?_ ?_ (Runs.len rfl sl22) ?_; rfl; rfl) | (refine WL.val ?_ ?_ (Runs.len rfl sl23) ?_; rfl; rfl) | (refine WL.val ?_ ?_ (Runs.len rfl sl24) ?_; rfl; rfl) | (refine WL.val ?_ ?_ (Runs.len rfl sl26) ?_; rfl; rfl) | (refine WL.val ?_ ?_ (Runs.len rfl sl27) ?_; rfl; rfl) | (refine WL.val ?_ ?_ (Runs.len rfl sl48) ?_; rfl; rfl) | (refine WL.val ?_ ?_ (Runs.len rfl sl60) ?_; rfl; rfl) | (refine WL.pass ?_ ?_ ?_; rfl; rfl))
    refine WL.nil ?_
    repeat (first | refine AtExit.thenRet ?_ | refine AtExit.thenExit ?_ | refine AtExit.blockRet ?_ | refine AtExit.blockEnd ?_ | refine AtExit.blockExit ?_ | (refine AtExit.blockPast ?_ ?_; rfl))
    refine AtExit.go ?_
    refine WC.condT rfl ?_
    refine WC.seq (WC.region ?_)
    repeat (first | (refine WL.val ?_ ?_ (Runs.move rfl) ?_; rfl; rfl) | (refine WL.val ?_ ?_ (Runs.assign rfl) ?_; rfl; rfl) | (refine WL.val ?_ ?_ (Runs.extract rfl rfl) ?_; rfl; rfl) | (refine WL.val ?_ ?_ (Runs.nilCheck rfl) ?_; rfl; rfl) | (refine WL.val ?_ ?_ (Runs.pickT rfl rfl) ?_; rfl; rfl) | (refine WL.val ?_ ?_ (Runs.pickF rfl rfl) ?_; rfl; rfl) | (refine WL.val ?_ ?_ (Runs.len rfl sl22) ?_; rfl; rfl) | (refine WL.val ?_ ?_ (Runs.len rfl sl23) ?_; rfl; rfl) | (refine WL.val ?_ ?_ (Runs.len rfl sl24) ?_; rfl; rfl) | (refine WL.val ?_ ?_ (Runs.len rfl sl26) ?_; rfl; rfl) | (refine WL.val ?_ ?_ (Runs.len rfl sl27) ?_; rfl; rfl) | (refine WL.val ?_ ?_ (Runs.len rfl sl48) ?_; rfl; rfl) | (refine WL.val ?_ ?_ (Runs.len rfl sl60) ?_; rfl; rfl) | (refine WL.pass ?_ ?_ ?_; rfl; rfl))
    refine WL.nil ?_
    repeat (first | refine AtExit.thenRet ?_ | refine AtExit.thenExit ?_ | refine AtExit.blockRet ?_ | refine AtExit.blockEnd ?_ | refine AtExit.blockExit ?_ | (refine AtExit.blockPast ?_ ?_; rfl))
    refine AtExit.go ?_
    refine WC.ret ?_
    repeat (first | refine AtExit.thenRet ?_ | refine AtExit.thenExit ?_ | refine AtExit.blockRet ?_ | refine AtExit.blockEnd ?_ | refine AtExit.blockExit ?_ | (refine AtExit.blockPast ?_ ?_; rfl))
    exact post1 rfl rfl ⟨rfl, Below.refl _ _⟩
  refine WL.val rfl rfl (Runs.gtr rfl rfl (dle hr1)) ?_
  repeat (first | (refine WL.val ?_ ?_ (Runs.move rfl) ?_; rfl; rfl) | (refine WL.val ?_ ?_ (Runs.assign rfl) ?_; rfl; rfl) | (refine WL.val ?_ ?_ (Runs.extract rfl rfl) ?_; rfl; rfl) | (refine WL.val ?_ ?_ (Runs.nilCheck rfl) ?_; rfl; rfl) | (refine WL.val ?_ ?_ (Runs.pickT rfl rfl) ?_; rfl; rfl) | (refine WL.val ?_ ?_ (Runs.pickF rfl rfl) ?_; rfl; rfl) | (refine WL.val ?_ ?_ (Runs.len rfl sl22) ?_; rfl; rfl) | (refine WL.val ?_ ?_ (Runs.len rfl sl23) ?_; rfl; rfl) | (refine WL.val ?_ ?_ (Runs.len rfl sl24) ?_; rfl; rfl) | (refine WL.val ?_ ?_ (Runs.len rfl sl26) ?_; rfl; rfl) | (refine WL.val ?_ ?_ (Runs.len rfl sl27) ?_; rfl; rfl) | (refine WL.val ?_ ?_ (Runs.len rfl sl48) ?_; rfl; rfl) | (refine WL.val ?_ ?_ (Runs.len rfl sl60) ?_; rfl; rfl) | (refine WL.pass ?_ ?_ ?_; rfl; rfl))
  by_cases hw1 : 1024 < mw
  · refine WL.val rfl rfl (Runs.gtr rfl rfl (dgt hw1)) ?_
    repeat (first | (refine WL.val ?_ ?_ (Runs.move rfl) ?_; rfl; rfl) | (refine WL.val ?_ ?_ (Runs.assign rfl) ?_; rfl; rfl) | (refine WL.val ?_ ?_ (Runs.extract rfl rfl) ?_; rfl; rfl) | (refine WL.val ?_ ?_ (Runs.nilCheck rfl) ?_; rfl; rfl) | (refine WL.val ?_ ?_ (Runs.pickT rfl rfl) ?_; rfl; rfl) | (refine WL.val ?_ ?_ (Runs.pickF rfl rfl) ?_; rfl; rfl) | (refine WL.val ?_ ?_ (Runs.len rfl sl22) ?_; rfl; rfl) | (refine WL.val ?_ ?_ (Runs.len rfl sl23) ?_; rfl; rfl) | (refine WL.val ?_ ?_ (Runs.len rfl sl24) ?_; rfl; rfl) | (refine WL.val ?_ ?_ (Runs.len rfl sl26) ?_; rfl; rfl) | (refine WL.val ?_ ?_ (Runs.len rfl sl27) ?_; rfl; rfl) | (refine WL.val ?_ ?_ (Runs.len rfl sl48) ?_; rfl; rfl) | (refine WL.val ?_ ?_ (Runs.len rfl sl60) ?_; rfl; rfl) | (refine WL.pass ?_ ?_ ?_; rfl; rfl))
    refine WL.nil ?_
    repeat (first | refine AtExit.thenRet ?_ | refine AtExit.thenExit ?_ | refine AtExit.blockRet ?_ | refine AtExit.blockEnd ?_ | refine AtExit.blockExit ?_ | (refine AtExit.blockPast ?_ ?_; rfl))
    refine AtExit.go ?_
    refine WC.condT rfl ?_
    refine WC.seq (WC.region ?_)
    repeat (first | (refine WL.val ?_ ?_ (Runs.move rfl) ?_; rfl; rfl) | (refine WL.val ?_ ?_ (Runs.assign rfl) ?_; rfl; rfl) | (refine WL.val ?_ ?_ (Runs.extract rfl rfl) ?_; rfl; rfl) | (refine WL.val ?_ ?_ (Runs.nilCheck rfl) ?_; rfl; rfl) | (refine WL.val ?_ ?_ (Runs.pickT rfl rfl) ?_; rfl; rfl) | (refine WL.val ?_ ?_ (Runs.pickF rfl rfl) ?_; rfl; rfl) | (refine WL.val ?_ ?_ (Runs.len rfl sl22) ?_; rfl; rfl) | (refine WL.val ?_ ?_ (Runs.len rfl sl23) ?_; rfl; rfl) | (refine WL.val ?_ ?_ (Runs.len rfl sl24) ?_; rfl; rfl) | (refine WL.val ?_ ?_ (Runs.len rfl sl26) ?_; rfl; rfl) | (refine WL.val ?_ ?_ (Runs.len rfl sl27) ?_; rfl; rfl) | (refine WL.val ?_ ?_ (Runs.len rfl sl48) ?_; rfl; rfl) | (refine WL.val ?_ ?_ (Runs.len rfl sl60) ?_; rfl; rfl) | (refine WL.pass ?_ ?_ ?_; rfl; rfl))
    refine WL.nil ?_
    repeat (first | refine AtExit.thenRet ?_ | refine AtExit.thenExit ?_ | refine AtExit.blockRet ?_ | refine AtExit.blockEnd ?_ | refine AtExit.blockExit ?_ | (refine AtExit.blockPast ?_ ?_; rfl))
    refine AtExit.go ?_
    refine WC.ret ?_
    repeat (first | refine AtExit.thenRet ?_ | refine AtExit.thenExit ?_ | refine AtExit.blockRet ?_ | refine AtExit.blockEnd ?_ | refine AtExit.blockExit ?_ | (refine AtExit.blockPast ?_ ?_; rfl))
    exact post1 rfl rfl ⟨rfl, Below.refl _ _⟩
  refine WL.val rfl rfl (Runs.gtr rfl rfl (dle hw1)) ?_
  repeat (first | (refine WL.val ?_ ?_ (Runs.move rfl) ?_; rfl; rfl) | (refine WL.val ?_ ?_ (Runs.assign rfl) ?_; rfl; rfl) | (refine WL.val ?_ ?_ (Runs.extract rfl rfl) ?_; rfl; rfl) | (refine WL.val ?_ ?_ (Runs.nilCheck rfl) ?_; rfl; rfl) | (refine WL.val ?_ ?_ (Runs.pickT rfl rfl) ?_; rfl; rfl) | (refine WL.val ?_ ?_ (Runs.pickF rfl rfl) ?_; rfl; rfl) | (refine WL.val ?_ ?_ (Runs.len rfl sl22) ?_; rfl; rfl) | (refine WL.val ?_ ?_ (Runs.len rfl sl23) ?_; rfl; rfl) | (refine WL.val ?_ ?_ (Runs.len rfl sl24) ?_; rfl; rfl) | (refine WL.val ?_ ?_ (Runs.len rfl sl26) ?_; rfl; rfl) | (refine WL.val ?_ ?_ (Runs.len rfl sl27) ?_; rfl; rfl) | (refine WL.val ?_ ?_ (Runs.len rfl sl48) ?_; rfl; rfl) | (refine WL.val ?_ ?_ (Runs.len rfl sl60) ?_; rfl; rfl) | (refine WL.pass ?_ ?_ ?_; rfl; rfl))
  refine WL.nil ?_
  repeat (first | refine AtExit.thenRet ?_ | refine AtExit.thenExit ?_ | refine AtExit.blockRet ?_ | refine AtExit.blockEnd ?_ | refine AtExit.blockExit ?_ | (refine AtExit.blockPast ?_ ?_; rfl))
  refine AtExit.go ?_
  refine WC.condF rfl ?_
  refine WC.skip ?_
  repeat (first | refine AtExit.thenRet ?_ | refine AtExit.thenExit ?_ | refine AtExit.blockRet ?_ | refine AtExit.blockEnd ?_ | refine AtExit.blockExit ?_ | (refine AtExit.blockPast ?_ ?_; rfl))
  refine AtExit.go ?_
  refine WC.seq (WC.region ?_)
  repeat (first | (refine WL.val ?_ ?_ (Runs.move rfl) ?_; rfl; rfl) | (refine WL.val ?_ ?_ (Runs.assign rfl) ?_; rfl; rfl) | (refine WL.val ?_ ?_ (Runs.extract rfl rfl) ?_; rfl; rfl) | (refine WL.val ?_ ?_ (Runs.nilCheck rfl) ?_; rfl; rfl) | (refine WL.val ?_ ?_ (Runs.pickT rfl rfl) ?_; rfl; rfl) | (refine WL.val ?_ ?_ (Runs.pickF rfl rfl) ?_; rfl; rfl) | (refine WL.val ?_ ?_ (Runs.len rfl sl22) ?_; rfl; rfl) | (refine WL.val ?_ ?_ (Runs.len rfl sl23) ?_; rfl; rfl) | (refine WL.val ?_ ?_ (Runs.len rfl sl24) ?_; rfl; rfl) | (refine WL.val ?_ ?_ (Runs.len rfl sl26) ?_; rfl; rfl) | (refine WL.val ?_ ?_ (Runs.len rfl sl27) ?_; rfl; rfl) | (refine WL.val ?_ ?_ (Runs.len rfl sl48) ?_; rfl; rfl) | (refine WL.val ?_ ?_ (Runs.len rfl sl60) ?_; rfl; rfl) | (refine WL.pass ?_ ?_ ?_; rfl; rfl))
  refine WL.nil ?_
  repeat (first | refine AtExit.thenRet ?_ | refine AtExit.thenExit ?_ | refine AtExit.blockRet ?_ | refine AtExit.blockEnd ?_ | refine AtExit.blockExit ?_ | (refine AtExit.blockPast ?_ ?_; rfl))
  refine AtExit.go ?_
  refine WC.sub (l' := [(0, .int .u8 (mo : Int)), (1, .int .u8 (nd : Int)), (2, .slice Aq mq Cq), (3, .slice Ar mr Cr), (4, .slice Aw mw Cw), (5, .string rl), (6, .string wl), (15, .int .i64 0)]) (by repeat (first | exact Sub.nil _ | refine Sub.cons rfl ?_)) ?_
  have sq := sumL_le lq
  have sr := sumL_le lr
  have sw := sumL_le lw
  refine WC.cut (α := Unit) (fun _ => [(0, .int .u8 (mo : Int)), (1, .int .u8 (nd : Int)), (2, .slice Aq mq Cq), (3, .slice Ar mr Cr), (4, .slice Aw mw Cw), (5, .string rl), (6, .string wl), (15, .int .i64 (sumL Rq mq : Int))]) (fun _ w' => w' = w) ?_ ?_
  · refine WC.seq (WC.region ?_)
    repeat (first | (refine WL.val ?_ ?_ (Runs.move rfl) ?_; rfl; rfl) | (refine WL.val ?_ ?_ (Runs.assign rfl) ?_; rfl; rfl) | (refine WL.val ?_ ?_ (Runs.extract rfl rfl) ?_; rfl; rfl) | (refine WL.val ?_ ?_ (Runs.nilCheck rfl) ?_; rfl; rfl) | (refine WL.val ?_ ?_ (Runs.pickT rfl rfl) ?_; rfl; rfl) | (refine WL.val ?_ ?_ (Runs.pickF rfl rfl) ?_; rfl; rfl) | (refine WL.val ?_ ?_ (Runs.len rfl sl22) ?_; rfl; rfl) | (refine WL.val ?_ ?_ (Runs.len rfl sl23) ?_; rfl; rfl) | (refine WL.val ?_ ?_ (Runs.len rfl sl24) ?_; rfl; rfl) | (refine WL.val ?_ ?_ (Runs.len rfl sl26) ?_; rfl; rfl) | (refine WL.val ?_ ?_ (Runs.len rfl sl27) ?_; rfl; rfl) | (refine WL.val ?_ ?_ (Runs.len rfl sl48) ?_; rfl; rfl) | (refine WL.val ?_ ?_ (Runs.len rfl sl60) ?_; rfl; rfl) | (refine WL.pass ?_ ?_ ?_; rfl; rfl))
    refine WL.nil ?_
    repeat (first | refine AtExit.thenRet ?_ | refine AtExit.thenExit ?_ | refine AtExit.blockRet ?_ | refine AtExit.blockEnd ?_ | refine AtExit.blockExit ?_ | (refine AtExit.blockPast ?_ ?_; rfl))
    refine AtExit.go ?_
    refine WC.block ?_
    refine WC.loop (α := Nat) (fun k => [(0, .int .u8 (mo : Int)), (1, .int .u8 (nd : Int)), (2, .slice Aq mq Cq), (3, .slice Ar mr Cr), (4, .slice Aw mw Cw), (5, .string rl), (6, .string wl), (15, .int .i64 (sumL Rq k : Int)), (73, .slice Aq mq Cq), (74, .int .i64 (mq : Int)), (75, .int .i64 (k : Int))])
      (fun k w' => w' = w ∧ k ≤ mq) (fun k => mq - k) 0 (by repeat (first | exact Sub.nil _ | refine Sub.cons rfl ?_)) ⟨rfl, Nat.zero_le _⟩ ?_
    rintro k w' ⟨rfl, hk⟩
    refine WC.seq (WC.region ?_)
    by_cases hkm : k < mq
    · refine WL.val rfl rfl (Runs.lss rfl rfl (declt hkm)) ?_
      refine WL.nil ?_
      repeat (first | refine AtExit.thenRet ?_ | refine AtExit.thenExit ?_ | refine AtExit.blockRet ?_ | refine AtExit.blockEnd ?_ | refine AtExit.blockExit ?_ | (refine AtExit.blockPast ?_ ?_; rfl))
      refine AtExit.go ?_
      refine WC.seq (WC.condT rfl ?_)
      refine WC.skip ?_
      repeat (first | refine AtExit.thenRet ?_ | refine AtExit.thenExit ?_ | refine AtExit.blockRet ?_ | refine AtExit.blockEnd ?_ | refine AtExit.blockExit ?_ | (refine AtExit.blockPast ?_ ?_; rfl))
      refine AtExit.go ?_
      refine WC.seq (WC.block ?_)
      obtain ⟨b, o, Ak, Ck, hA, hbN, hc, hrow⟩ := hq k hkm
      have h1 := sq k hk
      have h2 := lq k hkm
      refine WC.seq (WC.region ?_)
      refine WL.val rfl rfl (Runs.idxA hA rfl rfl Ybad.underlying22 sz23 rfl hkm) ?_
      refine WL.val rfl rfl (Runs.load rfl na23 hc) ?_
      repeat (first | (refine WL.val ?_ ?_ (Runs.move rfl) ?_; rfl; rfl) | (refine WL.val ?_ ?_ (Runs.assign rfl) ?_; rfl; rfl) | (refine WL.val ?_ ?_ (Runs.extract rfl rfl) ?_; rfl; rfl) | (refine WL.val ?_ ?_ (Runs.nilCheck rfl) ?_; rfl; rfl) | (refine WL.val ?_ ?_ (Runs.pickT rfl rfl) ?_; rfl; rfl) | (refine WL.val ?_ ?_ (Runs.pickF rfl rfl) ?_; rfl; rfl) | (refine WL.val ?_ ?_ (Runs.len rfl sl22) ?_; rfl; rfl) | (refine WL.val ?_ ?_ (Runs.len rfl sl23) ?_; rfl; rfl) | (refine WL.val ?_ ?_ (Runs.len rfl sl24) ?_; rfl; rfl) | (refine WL.val ?_ ?_ (Runs.len rfl sl26) ?_; rfl; rfl) | (refine WL.val ?_ ?_ (Runs.len rfl sl27) ?_; rfl; rfl) | (refine WL.val ?_ ?_ (Runs.len rfl sl48) ?_; rfl; rfl) | (refine WL.val ?_ ?_ (Runs.len rfl sl60) ?_; rfl; rfl) | (refine WL.pass ?_ ?_ ?_; rfl; rfl))
      refine WL.nil ?_
      repeat (first | refine AtExit.thenRet ?_ | refine AtExit.thenExit ?_ | refine AtExit.blockRet ?_ | refine AtExit.blockEnd ?_ | refine AtExit.blockExit ?_ | (refine AtExit.blockPast ?_ ?_; rfl))
      refine AtExit.go ?_
      refine WC.region ?_
      repeat (first | (refine WL.val ?_ ?_ (Runs.move rfl) ?_; rfl; rfl) | (refine WL.val ?_ ?_ (Runs.assign rfl) ?_; rfl; rfl) | (refine WL.val ?_ ?_ (Runs.extract rfl rfl) ?_; rfl; rfl) | (refine WL.val ?_ ?_ (Runs.nilCheck rfl) ?_; rfl; rfl) | (refine WL.val ?_ ?_ (Runs.pickT rfl rfl) ?_; rfl; rfl) | (refine WL.val ?_ ?_ (Runs.pickF rfl rfl) ?_; rfl; rfl) | (refine WL.val ?_ ?_ (Runs.len rfl sl22) ?_; rfl; rfl) | (refine WL.val ?_ ?_ (Runs.len rfl sl23) ?_; rfl; rfl) | (refine WL.val ?_ ?_ (Runs.len rfl sl24) ?_; rfl; rfl) | (refine WL.val ?_ ?_ (Runs.len rfl sl26) ?_; rfl; rfl) | (refine WL.val ?_ ?_ (Runs.len rfl sl27) ?_; rfl; rfl) | (refine WL.val ?_ ?_ (Runs.len rfl sl48) ?_; rfl; rfl) | (refine WL.val ?_ ?_ (Runs.len rfl sl60) ?_; rfl; rfl) | (refine WL.pass ?_ ?_ ?_; rfl; rfl))
      refine WL.val rfl rfl (Runs.add rfl rfl (wadd (r := ((sumL Rq (k + 1) : Nat) : Int)) (by rw [sumL]; omega) (by rw [sumL]; omega) (by rw [sumL]; omega))) ?_
      repeat (first | (refine WL.val ?_ ?_ (Runs.move rfl) ?_; rfl; rfl) | (refine WL.val ?_ ?_ (Runs.assign rfl) ?_; rfl; rfl) | (refine WL.val ?_ ?_ (Runs.extract rfl rfl) ?_; rfl; rfl) | (refine WL.val ?_ ?_ (Runs.nilCheck rfl) ?_; rfl; rfl) | (refine WL.val ?_ ?_ (Runs.pickT rfl rfl) ?_; rfl; rfl) | (refine WL.val ?_ ?_ (Runs.pickF rfl rfl) ?_; rfl; rfl) | (refine WL.val ?_ ?_ (Runs.len rfl sl22) ?_; rfl; rfl) | (refine WL.val ?_ ?_ (Runs.len rfl sl23) ?_; rfl; rfl) | (refine WL.val ?_ ?_ (Runs.len rfl sl24) ?_; rfl; rfl) | (refine WL.val ?_ ?_ (Runs.len rfl sl26) ?_; rfl; rfl) | (refine WL.val ?_ ?_ (Runs.len rfl sl27) ?_; rfl; rfl) | (refine WL.val ?_ ?_ (Runs.len rfl sl48) ?_; rfl; rfl) | (refine WL.val ?_ ?_ (Runs.len rfl sl60) ?_; rfl; rfl) | (refine WL.pass ?_ ?_ ?_; rfl; rfl))
      refine WL.nil ?_
      repeat (first | refine AtExit.thenRet ?_ | refine AtExit.thenExit ?_ | refine AtExit.blockRet ?_ | refine AtExit.blockEnd ?_ | refine AtExit.blockExit ?_ | (refine AtExit.blockPast ?_ ?_; rfl))
      refine AtExit.go ?_
      refine WC.region ?_
      refine WL.val rfl rfl (Runs.add rfl rfl (wadd (r := ((k + 1 : Nat) : Int)) (by omega) (by omega) (by omega))) ?_
      repeat (first | (refine WL.val ?_ ?_ (Runs.move rfl) ?_; rfl; rfl) | (refine WL.val ?_ ?_ (Runs.assign rfl) ?_; rfl; rfl) | (refine WL.val ?_ ?_ (Runs.extract rfl rfl) ?_; rfl; rfl) | (refine WL.val ?_ ?_ (Runs.nilCheck rfl) ?_; rfl; rfl) | (refine WL.val ?_ ?_ (Runs.pickT rfl rfl) ?_; rfl; rfl) | (refine WL.val ?_ ?_ (Runs.pickF rfl rfl) ?_; rfl; rfl) | (refine WL.val ?_ ?_ (Runs.len rfl sl22) ?_; rfl; rfl) | (refine WL.val ?_ ?_ (Runs.len rfl sl23) ?_; rfl; rfl) | (refine WL.val ?_ ?_ (Runs.len rfl sl24) ?_; rfl; rfl) | (refine WL.val ?_ ?_ (Runs.len rfl sl26) ?_; rfl; rfl) | (refine WL.val ?_ ?_ (Runs.len rfl sl27) ?_; rfl; rfl) | (refine WL.val ?_ ?_ (Runs.len rfl sl48) ?_; rfl; rfl) | (refine WL.val ?_ ?_ (Runs.len rfl sl60) ?_; rfl; rfl) | (refine WL.pass ?_ ?_ ?_; rfl; rfl))
      refine WL.nil ?_
      repeat (first | refine AtExit.thenRet ?_ | refine AtExit.thenExit ?_ | refine AtExit.blockRet ?_ | refine AtExit.blockEnd ?_ | refine AtExit.blockExit ?_ | (refine AtExit.blockPast ?_ ?_; rfl))
      refine AtExit.inv fun a ha => ⟨k + 1, ha.sub (by repeat (first | exact Sub.nil _ | refine Sub.cons rfl ?_)), ⟨rfl, by omega⟩, by omega⟩
    · refine WL.val rfl rfl (Runs.lss rfl rfl (decge hkm)) ?_
      refine WL.nil ?_
      repeat (first | refine AtExit.thenRet ?_ | refine AtExit.thenExit ?_ | refine AtExit.blockRet ?_ | refine AtExit.blockEnd ?_ | refine AtExit.blockExit ?_ | (refine AtExit.blockPast ?_ ?_; rfl))
      refine AtExit.go ?_
      refine WC.seq (WC.condF rfl ?_)
      have hkq : k = mq := by omega
      subst hkq
      refine WC.exit ?_
      repeat (first | refine AtExit.thenRet ?_ | refine AtExit.thenExit ?_ | refine AtExit.blockRet ?_ | refine AtExit.blockEnd ?_ | refine AtExit.blockExit ?_ | (refine AtExit.blockPast ?_ ?_; rfl))
      refine AtExit.inv fun a ha => ⟨(), ha.sub (by repeat (first | exact Sub.nil _ | refine Sub.cons rfl ?_)), rfl⟩
  rintro _ w' rfl
  have tq := sq mq (Nat.le_refl _)
  refine WC.cut (α := Unit) (fun _ => [(0, .int .u8 (mo : Int)), (1, .int .u8 (nd : Int)), (2, .slice Aq mq Cq), (3, .slice Ar mr Cr), (4, .slice Aw mw Cw), (5, .string rl), (6, .string wl), (15, .int .i64 ((sumL Rq mq + sumL Rr mr : Nat) : Int))]) (fun _ w2 => w2 = w') ?_ ?_
  · refine WC.seq (WC.region ?_)
    repeat (first | (refine WL.val ?_ ?_ (Runs.move rfl) ?_; rfl; rfl) | (refine WL.val ?_ ?_ (Runs.assign rfl) ?_; rfl; rfl) | (refine WL.val ?_ ?_ (Runs.extract rfl rfl) ?_; rfl; rfl) | (refine WL.val ?_ ?_ (Runs.nilCheck rfl) ?_; rfl; rfl) | (refine WL.val ?_ ?_ (Runs.pickT rfl rfl) ?_; rfl; rfl) | (refine WL.val ?_ ?_ (Runs.pickF rfl rfl) ?_; rfl; rfl) | (refine WL.val ?_ ?_ (Runs.len rfl sl22) ?_; rfl; rfl) | (refine WL.val ?_ ?_ (Runs.len rfl sl23) ?_; rfl; rfl) | (refine WL.val ?_ ?_ (Runs.len rfl sl24) ?_; rfl; rfl) | (refine WL.val ?_ ?_ (Runs.len rfl sl26) ?_; rfl; rfl) | (refine WL.val ?_ ?_ (Runs.len rfl sl27) ?_; rfl; rfl) | (refine WL.val ?_ ?_ (Runs.len rfl sl48) ?_; rfl; rfl) | (refine WL.val ?_ ?_ (Runs.len rfl sl60) ?_; rfl; rfl) | (refine WL.pass ?_ ?_ ?_; rfl; rfl))
    refine WL.nil ?_
    repeat (first | refine AtExit.thenRet ?_ | refine AtExit.thenExit ?_ | refine AtExit.blockRet ?_ | refine AtExit.blockEnd ?_ | refine AtExit.blockExit ?_ | (refine AtExit.blockPast ?_ ?_; rfl))
    refine AtExit.go ?_
    refine WC.block ?_
    refine WC.loop (α := Nat) (fun k => [(0, .int .u8 (mo : Int)), (1, .int .u8 (nd : Int)), (2, .slice Aq mq Cq), (3, .slice Ar mr Cr), (4, .slice Aw mw Cw), (5, .string rl), (6, .string wl), (15, .int .i64 ((sumL Rq mq + sumL Rr k : Nat) : Int)), (84, .slice Ar mr Cr), (85, .int .i64 (mr : Int)), (86, .int .i64 (k : Int))])
      (fun k w2 => w2 = w' ∧ k ≤ mr) (fun k => mr - k) 0 (by repeat (first | exact Sub.nil _ | refine Sub.cons rfl ?_)) ⟨rfl, Nat.zero_le _⟩ ?_
    rintro k w2 ⟨rfl, hk⟩
    refine WC.seq (WC.region ?_)
    by_cases hkm : k < mr
    · refine WL.val rfl rfl (Runs.lss rfl rfl (declt hkm)) ?_
      refine WL.nil ?_
      repeat (first | refine AtExit.thenRet ?_ | refine AtExit.thenExit ?_ | refine AtExit.blockRet ?_ | refine AtExit.blockEnd ?_ | refine AtExit.blockExit ?_ | (refine AtExit.blockPast ?_ ?_; rfl))
      refine AtExit.go ?_
      refine WC.seq (WC.condT rfl ?_)
      refine WC.skip ?_
      repeat (first | refine AtExit.thenRet ?_ | refine AtExit.thenExit ?_ | refine AtExit.blockRet ?_ | refine AtExit.blockEnd ?_ | refine AtExit.blockExit ?_ | (refine AtExit.blockPast ?_ ?_; rfl))
      refine AtExit.go ?_
      refine WC.seq (WC.block ?_)
      obtain ⟨b, o, Ak, Ck, hA, hbN, hc, hrow⟩ := hr k hkm
      have h1 := sr k hk
      have h2 := lr k hkm
      refine WC.seq (WC.region ?_)
      refine WL.val rfl rfl (Runs.idxA hA rfl rfl Ybad.underlying22 sz23 rfl hkm) ?_
      refine WL.val rfl rfl (Runs.load rfl na23 hc) ?_
      repeat (first | (refine WL.val ?_ ?_ (Runs.move rfl) ?_; rfl; rfl) | (refine WL.val ?_ ?_ (Runs.assign rfl) ?_; rfl; rfl) | (refine WL.val ?_ ?_ (Runs.extract rfl rfl) ?_; rfl; rfl) | (refine WL.val ?_ ?_ (Runs.nilCheck rfl) ?_; rfl; rfl) | (refine WL.val ?_ ?_ (Runs.pickT rfl rfl) ?_; rfl; rfl) | (refine WL.val ?_ ?_ (Runs.pickF rfl rfl) ?_; rfl; rfl) | (refine WL.val ?_ ?_ (Runs.len rfl sl22) ?_; rfl; rfl) | (refine WL.val ?_ ?_ (Runs.len rfl sl23) ?_; rfl; rfl) | (refine WL.val ?_ ?_ (Runs.len rfl sl24) ?_; rfl; rfl) | (refine WL.val ?_ ?_ (Runs.len rfl sl26) ?_; rfl; rfl) | (refine WL.val ?_ ?_ (Runs.len rfl sl27) ?_; rfl; rfl) | (refine WL.val ?_ ?_ (Runs.len rfl sl48) ?_; rfl; rfl) | (refine WL.val ?_ ?_ (Runs.len rfl sl60) ?_; rfl; rfl) | (refine WL.pass ?_ ?_ ?_; rfl; rfl))
      refine WL.nil ?_
      repeat (first | refine AtExit.thenRet ?_ | refine AtExit.thenExit ?_ | refine AtExit.blockRet ?_ | refine AtExit.blockEnd ?_ | refine AtExit.blockExit ?_ | (refine AtExit.blockPast ?_ ?_; rfl))
      refine AtExit.go ?_
      refine WC.region ?_
      repeat (first | (refine WL.val ?_ ?_ (Runs.move rfl) ?_; rfl; rfl) | (refine WL.val ?_ ?_ (Runs.assign rfl) ?_; rfl; rfl) | (refine WL.val ?_ ?_ (Runs.extract rfl rfl) ?_; rfl; rfl) | (refine WL.val ?_ ?_ (Runs.nilCheck rfl) ?_; rfl; rfl) | (refine WL.val ?_ ?_ (Runs.pickT rfl rfl) ?_; rfl; rfl) | (refine WL.val ?_ ?_ (Runs.pickF rfl rfl) ?_; rfl; rfl) | (refine WL.val ?_ ?_ (Runs.len rfl sl22) ?_; rfl; rfl) | (refine WL.val ?_ ?_ (Runs.len rfl sl23) ?_; rfl; rfl) | (refine WL.val ?_ ?_ (Runs.len rfl sl24) ?_; rfl; rfl) | (refine WL.val ?_ ?_ (Runs.len rfl sl26) ?_; rfl; rfl) | (refine WL.val ?_ ?_ (Runs.len rfl sl27) ?_; rfl; rfl) | (refine WL.val ?_ ?_ (Runs.len rfl sl48) ?_; rfl; rfl) | (refine WL.val ?_ ?_ (Runs.len rfl sl60) ?_; rfl; rfl) | (refine WL.pass ?_ ?_ ?_; rfl; rfl))
      refine WL.val rfl rfl (Runs.add rfl rfl (wadd (r := ((sumL Rq mq + sumL Rr (k + 1) : Nat) : Int)) (by rw [sumL]; omega) (by rw [sumL]; omega) (by rw [sumL]; omega))) ?_
      repeat (first | (refine WL.val ?_ ?_ (Runs.move rfl) ?_; rfl; rfl) | (refine WL.val ?_ ?_ (Runs.assign rfl) ?_; rfl; rfl) | (refine WL.val ?_ ?_ (Runs.extract rfl rfl) ?_; rfl; rfl) | (refine WL.val ?_ ?_ (Runs.nilCheck rfl) ?_; rfl; rfl) | (refine WL.val ?_ ?_ (Runs.pickT rfl rfl) ?_; rfl; rfl) | (refine WL.val ?_ ?_ (Runs.pickF rfl rfl) ?_; rfl; rfl) | (refine WL.val ?_ ?_ (Runs.len rfl sl22) ?_; rfl; rfl) | (refine WL.val ?_ ?_ (Runs.len rfl sl23) ?_; rfl; rfl) | (refine WL.val ?_ ?_ (Runs.len rfl sl24) ?_; rfl; rfl) | (refine WL.val ?_ ?_ (Runs.len rfl sl26) ?_; rfl; rfl) | (refine WL.val ?_ ?_ (Runs.len rfl sl27) ?_; rfl; rfl) | (refine WL.val ?_ ?_ (Runs.len rfl sl48) ?_; rfl; rfl) | (refine WL.val ?_ ?_ (Runs.len rfl sl60) ?_; rfl; rfl) | (refine WL.pass ?_ ?_ ?_; rfl; rfl))
      refine WL.nil ?_
      repeat (first | refine AtExit.thenRet ?_ | refine AtExit.thenExit ?_ | refine AtExit.blockRet ?_ | refine AtExit.blockEnd ?_ | refine AtExit.blockExit ?_ | (refine AtExit.blockPast ?_ ?_; rfl))
      refine AtExit.go ?_
      refine WC.region ?_
      refine WL.val rfl rfl (Runs.add rfl rfl (wadd (r := ((k + 1 : Nat) : Int)) (by omega) (by omega) (by omega))) ?_
      repeat (first | (refine WL.val ?_ ?_ (Runs.move rfl) ?_; rfl; rfl) | (refine WL.val ?_ ?_ (Runs.assign rfl) ?_; rfl; rfl) | (refine WL.val ?_ ?_ (Runs.extract rfl rfl) ?_; rfl; rfl) | (refine WL.val ?_ ?_ (Runs.nilCheck rfl) ?_; rfl; rfl) | (refine WL.val ?_ ?_ (Runs.pickT rfl rfl) ?_; rfl; rfl) | (refine WL.val ?_ ?_ (Runs.pickF rfl rfl) ?_; rfl; rfl) | (refine WL.val ?_ ?_ (Runs.len rfl sl22) ?_; rfl; rfl) | (refine WL.val ?_ ?_ (Runs.len rfl sl23) ?_; rfl; rfl) | (refine WL.val ?_ ?_ (Runs.len rfl sl24) ?_; rfl; rfl) | (refine WL.val ?_ ?_ (Runs.len rfl sl26) ?_; rfl; rfl) | (refine WL.val ?_ ?_ (Runs.len rfl sl27) ?_; rfl; rfl) | (refine WL.val ?_ ?_ (Runs.len rfl sl48) ?_; rfl; rfl) | (refine WL.val ?_ ?_ (Runs.len rfl sl60) ?_; rfl; rfl) | (refine WL.pass ?_ ?_ ?_; rfl; rfl))
      refine WL.nil ?_
      repeat (first | refine AtExit.thenRet ?_ | refine AtExit.thenExit ?_ | refine AtExit.blockRet ?_ | refine AtExit.blockEnd ?_ | refine AtExit.blockExit ?_ | (refine AtExit.blockPast ?_ ?_; rfl))
      refine AtExit.inv fun a ha => ⟨k + 1, ha.sub (by repeat (first | exact Sub.nil _ | refine Sub.cons rfl ?_)), ⟨rfl, by omega⟩, by omega⟩
    · refine WL.val rfl rfl (Runs.lss rfl rfl (decge hkm)) ?_
      refine WL.nil ?_
      repeat (first | refine AtExit.thenRet ?_ | refine AtExit.thenExit ?_ | refine AtExit.blockRet ?_ | refine AtExit.blockEnd ?_ | refine AtExit.blockExit ?_ | (refine AtExit.blockPast ?_ ?_; rfl))
      refine AtExit.go ?_
      refine WC.seq (WC.condF rfl ?_)
      have hkq : k = mr := by omega
      subst hkq
      refine WC.exit ?_
      repeat (first | refine AtExit.thenRet ?_ | refine AtExit.thenExit ?_ | refine AtExit.blockRet ?_ | refine AtExit.blockEnd ?_ | refine AtExit.blockExit ?_ | (refine AtExit.blockPast ?_ ?_; rfl))
      refine AtExit.inv fun a ha => ⟨(), ha.sub (by repeat (first | exact Sub.nil _ | refine Sub.cons rfl ?_)), rfl⟩
  rintro _ w2 rfl
  have tr := sr mr (Nat.le_refl _)
  refine WC.cut (α := Unit) (fun _ => [(0, .int .u8 (mo : Int)), (1, .int .u8 (nd : Int)), (2, .slice Aq mq Cq), (3, .slice Ar mr Cr), (4, .slice Aw mw Cw), (5, .string rl), (6, .string wl), (15, .int .i64 ((sumL Rq mq + sumL Rr mr + sumL Rw mw : Nat) : Int))]) (fun _ w' => w' = w2) ?_ ?_
  · refine WC.seq (WC.region ?_)
    repeat (first | (refine WL.val ?_ ?_ (Runs.move rfl) ?_; rfl; rfl) | (refine WL.val ?_ ?_ (Runs.assign rfl) ?_; rfl; rfl) | (refine WL.val ?_ ?_ (Runs.extract rfl rfl) ?_; rfl; rfl) | (refine WL.val ?_ ?_ (Runs.nilCheck rfl) ?_; rfl; rfl) | (refine WL.val ?_ ?_ (Runs.pickT rfl rfl) ?_; rfl; rfl) | (refine WL.val ?_ ?_ (Runs.pickF rfl rfl) ?_; rfl; rfl) | (refine WL.val ?_ ?_ (Runs.len rfl sl22) ?_; rfl; rfl) | (refine WL.val ?_ ?_ (Runs.len rfl sl23) ?_; rfl; rfl) | (refine WL.val ?_ ?_ (Runs.len rfl sl24) ?_; rfl; rfl) | (refine WL.val ?_ ?_ (Runs.len rfl sl26) ?_; rfl; rfl) | (refine WL.val ?_ ?_ (Runs.len rfl sl27) ?_; rfl; rfl) | (refine WL.val ?_ ?_ (Runs.len rfl sl48) ?_; rfl; rfl) | (refine WL.val ?_ ?_ (Runs.len rfl sl60) ?_; rfl; rfl) | (refine WL.pass ?_ ?_ ?_; rfl; rfl))
    refine WL.nil ?_
    repeat (first | refine AtExit.thenRet ?_ | refine AtExit.thenExit ?_ | refine AtExit.blockRet ?_ | refine AtExit.blockEnd ?_ | refine AtExit.blockExit ?_ | (refine AtExit.blockPast ?_ ?_; rfl))
    refine AtExit.go ?_
    refine WC.block ?_
    refine WC.loop (α := Nat) (fun k => [(0, .int .u8 (mo : Int)), (1, .int .u8 (nd : Int)), (2, .slice Aq mq Cq), (3, .slice Ar mr Cr), (4, .slice Aw mw Cw), (5, .string rl), (6, .string wl), (15, .int .i64 ((sumL Rq mq + sumL Rr mr + sumL Rw k : Nat) : Int)), (95, .slice Aw mw Cw), (96, .int .i64 (mw : Int)), (97, .int .i64 (k : Int))])
      (fun k w' => w' = w2 ∧ k ≤ mw) (fun k => mw - k) 0 (by repeat (first | exact Sub.nil _ | refine Sub.cons rfl ?_)) ⟨rfl, Nat.zero_le _⟩ ?_
    rintro k w' ⟨rfl, hk⟩
    refine WC.seq (WC.region ?_)
    by_cases hkm : k < mw
    · refine WL.val rfl rfl (Runs.lss rfl rfl (declt hkm)) ?_
      refine WL.nil ?_
      repeat (first | refine AtExit.thenRet ?_ | refine AtExit.thenExit ?_ | refine AtExit.blockRet ?_ | refine AtExit.blockEnd ?_ | refine AtExit.blockExit ?_ | (refine AtExit.blockPast ?_ ?_; rfl))
      refine AtExit.go ?_
      refine WC.seq (WC.condT rfl ?_)
      refine WC.skip ?_
      repeat (first | refine AtExit.thenRet ?_ | refine AtExit.thenExit ?_ | refine AtExit.blockRet ?_ | refine AtExit.blockEnd ?_ | refine AtExit.blockExit ?_ | (refine AtExit.blockPast ?_ ?_; rfl))
      refine AtExit.go ?_
      refine WC.seq (WC.block ?_)
      obtain ⟨b, o, Ak, Ck, hA, hbN, hc, hrow⟩ := hw k hkm
      have h1 := sw k hk
      have h2 := lw k hkm
      refine WC.seq (WC.region ?_)
      refine WL.val rfl rfl (Runs.idxA hA rfl rfl Ybad.underlying22 sz23 rfl hkm) ?_
      refine WL.val rfl rfl (Runs.load rfl na23 hc) ?_
      repeat (first | (refine WL.val ?_ ?_ (Runs.move rfl) ?_; rfl; rfl) | (refine WL.val ?_ ?_ (Runs.assign rfl) ?_; rfl; rfl) | (refine WL.val ?_ ?_ (Runs.extract rfl rfl) ?_; rfl; rfl) | (refine WL.val ?_ ?_ (Runs.nilCheck rfl) ?_; rfl; rfl) | (refine WL.val ?_ ?_ (Runs.pickT rfl rfl) ?_; rfl; rfl) | (refine WL.val ?_ ?_ (Runs.pickF rfl rfl) ?_; rfl; rfl) | (refine WL.val ?_ ?_ (Runs.len rfl sl22) ?_; rfl; rfl) | (refine WL.val ?_ ?_ (Runs.len rfl sl23) ?_; rfl; rfl) | (refine WL.val ?_ ?_ (Runs.len rfl sl24) ?_; rfl; rfl) | (refine WL.val ?_ ?_ (Runs.len rfl sl26) ?_; rfl; rfl) | (refine WL.val ?_ ?_ (Runs.len rfl sl27) ?_; rfl; rfl) | (refine WL.val ?_ ?_ (Runs.len rfl sl48) ?_; rfl; rfl) | (refine WL.val ?_ ?_ (Runs.len rfl sl60) ?_; rfl; rfl) | (refine WL.pass ?_ ?_ ?_; rfl; rfl))
      refine WL.nil ?_
      repeat (first | refine AtExit.thenRet ?_ | refine AtExit.thenExit ?_ | refine AtExit.blockRet ?_ | refine AtExit.blockEnd ?_ | refine AtExit.blockExit ?_ | (refine AtExit.blockPast ?_ ?_; rfl))
      refine AtExit.go ?_
      refine WC.region ?_
      repeat (first | (refine WL.val ?_ ?_ (Runs.move rfl) ?_; rfl; rfl) | (refine WL.val ?_ ?_ (Runs.assign rfl) ?_; rfl; rfl) | (refine WL.val ?_ ?_ (Runs.extract rfl rfl) ?_; rfl; rfl) | (refine WL.val ?_ ?_ (Runs.nilCheck rfl) ?_; rfl; rfl) | (refine WL.val ?_ ?_ (Runs.pickT rfl rfl) ?_; rfl; rfl) | (refine WL.val ?_ ?_ (Runs.pickF rfl rfl) ?_; rfl; rfl) | (refine WL.val ?_ ?_ (Runs.len rfl sl22) ?_; rfl; rfl) | (refine WL.val ?_ ?_ (Runs.len rfl sl23) ?_; rfl; rfl) | (refine WL.val ?_ ?_ (Runs.len rfl sl24) ?_; rfl; rfl) | (refine WL.val ?_ ?_ (Runs.len rfl sl26) ?_; rfl; rfl) | (refine WL.val ?_ ?_ (Runs.len rfl sl27) ?_; rfl; rfl) | (refine WL.val ?_ ?_ (Runs.len rfl sl48) ?_; rfl; rfl) | (refine WL.val ?_ ?_ (Runs.len rfl sl60) ?_; rfl; rfl) | (refine WL.pass ?_ ?_ ?_; rfl; rfl))
      refine WL.val rfl rfl (Runs.add rfl rfl (wadd (r := ((sumL Rq mq + sumL Rr mr + sumL Rw (k + 1) : Nat) : Int)) (by rw [sumL]; omega) (by rw [sumL]; omega) (by rw [sumL]; omega))) ?_
      repeat (first | (refine WL.val ?_ ?_ (Runs.move rfl) ?_; rfl; rfl) | (refine WL.val ?_ ?_ (Runs.assign rfl) ?_; rfl; rfl) | (refine WL.val ?_ ?_ (Runs.extract rfl rfl) ?_; rfl; rfl) | (refine WL.val ?_ ?_ (Runs.nilCheck rfl) ?_; rfl; rfl) | (refine WL.val ?_ ?_ (Runs.pickT rfl rfl) ?_; rfl; rfl) | (refine WL.val ?_ ?_ (Runs.pickF rfl rfl) ?_; rfl; rfl) | (refine WL.val ?_ ?_ (Runs.len rfl sl22) ?_; rfl; rfl) | (refine WL.val ?_ ?_ (Runs.len rfl sl23) ?_; rfl; rfl) | (refine WL.val ?_ ?_ (Runs.len rfl sl24) ?_; rfl; rfl) | (refine WL.val ?_ ?_ (Runs.len rfl sl26) ?_; rfl; rfl) | (refine WL.val ?_ ?_ (Runs.len rfl sl27) ?_; rfl; rfl) | (refine WL.val ?_ ?_ (Runs.len rfl sl48) ?_; rfl; rfl) | (refine WL.val ?_ ?_ (Runs.len rfl sl60) ?_; rfl; rfl) | (refine WL.pass ?_ ?_ ?_; rfl; rfl))
      refine WL.nil ?_
      repeat (first | refine AtExit.thenRet ?_ | refine AtExit.thenExit ?_ | refine AtExit.blockRet ?_ | refine AtExit.blockEnd ?_ | refine AtExit.blockExit ?_ | (refine AtExit.blockPast ?_ ?_; rfl))
      refine AtExit.go ?_
      refine WC.region ?_
      refine WL.val rfl rfl (Runs.add rfl rfl (wadd (r := ((k + 1 : Nat) : Int)) (by omega) (by omega) (by omega))) ?_
      repeat (first | (refine WL.val ?_ ?_ (Runs.move rfl) ?_; rfl; rfl) | (refine WL.val ?_ ?_ (Runs.assign rfl) ?_; rfl; rfl) | (refine WL.val ?_ ?_ (Runs.extract rfl rfl) ?_; rfl; rfl) | (refine WL.val ?_ ?_ (Runs.nilCheck rfl) ?_; rfl; rfl) | (refine WL.val ?_ ?_ (Runs.pickT rfl rfl) ?_; rfl; rfl) | (refine WL.val ?_ ?_ (Runs.pickF rfl rfl) ?_; rfl; rfl) | (refine WL.val ?_ ?_ (Runs.len rfl sl22) ?_; rfl; rfl) | (refine WL.val ?_ ?_ (Runs.len rfl sl23) ?_; rfl; rfl) | (refine WL.val ?_ ?_ (Runs.len rfl sl24) ?_; rfl; rfl) | (refine WL.val ?_ ?_ (Runs.len rfl sl26) ?_; rfl; rfl) | (refine WL.val ?_ ?_ (Runs.len rfl sl27) ?_; rfl; rfl) | (refine WL.val ?_ ?_ (Runs.len rfl sl48) ?_; rfl; rfl) | (refine WL.val ?_ ?_ (Runs.len rfl sl60) ?_; rfl; rfl) | (refine WL.pass ?_ ?_ ?_; rfl; rfl))
      refine WL.nil ?_
      repeat (first | refine AtExit.thenRet ?_ | refine AtExit.thenExit ?_ | refine AtExit.blockRet ?_ | refine AtExit.blockEnd ?_ | refine AtExit.blockExit ?_ | (refine AtExit.blockPast ?_ ?_; rfl))
      refine AtExit.inv fun a ha => ⟨k + 1, ha.sub (by repeat (first | exact Sub.nil _ | refine Sub.cons rfl ?_)), ⟨rfl, by omega⟩, by omega⟩
    · refine WL.val rfl rfl (Runs.lss rfl rfl (decge hkm)) ?_
      refine WL.nil ?_
      repeat (first | refine AtExit.thenRet ?_ | refine AtExit.thenExit ?_ | refine AtExit.blockRet ?_ | refine AtExit.blockEnd ?_ | refine AtExit.blockExit ?_ | (refine AtExit.blockPast ?_ ?_; rfl))
      refine AtExit.go ?_
      refine WC.seq (WC.condF rfl ?_)
      have hkq : k = mw := by omega
      subst hkq
      refine WC.exit ?_
      repeat (first | refine AtExit.thenRet ?_ | refine AtExit.thenExit ?_ | refine AtExit.blockRet ?_ | refine AtExit.blockEnd ?_ | refine AtExit.blockExit ?_ | (refine AtExit.blockPast ?_ ?_; rfl))
      refine AtExit.inv fun a ha => ⟨(), ha.sub (by repeat (first | exact Sub.nil _ | refine Sub.cons rfl ?_)), rfl⟩
  rintro _ w' rfl
  obtain ⟨w, hww⟩ : ∃ w, w = w' := ⟨_, rfl⟩
  rw [← hww] at ht hq hr hw ⊢
  clear hww w'
  have tw := sw mw (Nat.le_refl _)
  refine WC.seq ?_
  refine WC.seq (WC.region ?_)
  repeat (first | (refine WL.val ?_ ?_ (Runs.move rfl) ?_; rfl; rfl) | (refine WL.val ?_ ?_ (Runs.assign rfl) ?_; rfl; rfl) | (refine WL.val ?_ ?_ (Runs.extract rfl rfl) ?_; rfl; rfl) | (refine WL.val ?_ ?_ (Runs.nilCheck rfl) ?_; rfl; rfl) | (refine WL.val ?_ ?_ (Runs.pickT rfl rfl) ?_; rfl; rfl) | (refine WL.val ?_ ?_ (Runs.pickF rfl rfl) ?_; rfl; rfl) | (refine WL.val ?_ ?_ (Runs.len rfl sl22) ?_; rfl; rfl) | (refine WL.val ?_ ?_ (Runs.len rfl sl23) ?_; rfl; rfl) | (refine WL.val ?_ ?_ (Runs.len rfl sl24) ?_; rfl; rfl) | (refine WL.val ?_ ?_ (Runs.len rfl sl26) ?_; rfl; rfl) | (refine WL.val ?_ ?_ (Runs.len rfl sl27) ?_; rfl; rfl) | (refine WL.val ?_ ?_ (Runs.len rfl sl48) ?_; rfl; rfl) | (refine WL.val ?_ ?_ (Runs.len rfl sl60) ?_; rfl; rfl) | (refine WL.pass ?_ ?_ ?_; rfl; rfl))
  by_cases htot : 65536 < sumL Rq mq + sumL Rr mr + sumL Rw mw
  · refine WL.val rfl rfl (Runs.gtr rfl rfl (r := true) (by rw [decide_eq_true_eq]; omega)) ?_
    refine WL.nil ?_
    repeat (first | refine AtExit.thenRet ?_ | refine AtExit.thenExit ?_ | refine AtExit.blockRet ?_ | refine AtExit.blockEnd ?_ | refine AtExit.blockExit ?_ | (refine AtExit.blockPast ?_ ?_; rfl))
    refine AtExit.go ?_
    refine WC.condT rfl ?_
    refine WC.seq (WC.region ?_)
    repeat (first | (refine WL.val ?_ ?_ (Runs.move rfl) ?_; rfl; rfl) | (refine WL.val ?_ ?_ (Runs.assign rfl) ?_; rfl; rfl) | (refine WL.val ?_ ?_ (Runs.extract rfl rfl) ?_; rfl; rfl) | (refine WL.val ?_ ?_ (Runs.nilCheck rfl) ?_; rfl; rfl) | (refine WL.val ?_ ?_ (Runs.pickT rfl rfl) ?_; rfl; rfl) | (refine WL.val ?_ ?_ (Runs.pickF rfl rfl) ?_; rfl; rfl) | (refine WL.val ?_ ?_ (Runs.len rfl sl22) ?_; rfl; rfl) | (refine WL.val ?_ ?_ (Runs.len rfl sl23) ?_; rfl; rfl) | (refine WL.val ?_ ?_ (Runs.len rfl sl24) ?_; rfl; rfl) | (refine WL.val ?_ ?_ (Runs.len rfl sl26) ?_; rfl; rfl) | (refine WL.val ?_ ?_ (Runs.len rfl sl27) ?_; rfl; rfl) | (refine WL.val ?_ ?_ (Runs.len rfl sl48) ?_; rfl; rfl) | (refine WL.val ?_ ?_ (Runs.len rfl sl60) ?_; rfl; rfl) | (refine WL.pass ?_ ?_ ?_; rfl; rfl))
    refine WL.nil ?_
    repeat (first | refine AtExit.thenRet ?_ | refine AtExit.thenExit ?_ | refine AtExit.blockRet ?_ | refine AtExit.blockEnd ?_ | refine AtExit.blockExit ?_ | (refine AtExit.blockPast ?_ ?_; rfl))
    refine AtExit.go ?_
    refine WC.ret ?_
    repeat (first | refine AtExit.thenRet ?_ | refine AtExit.thenExit ?_ | refine AtExit.blockRet ?_ | refine AtExit.blockEnd ?_ | refine AtExit.blockExit ?_ | (refine AtExit.blockPast ?_ ?_; rfl))
    exact post1 rfl rfl ⟨rfl, Below.refl _ _⟩
  refine WL.val rfl rfl (Runs.gtr rfl rfl (r := false) (by rw [decide_eq_false_iff_not]; omega)) ?_
  refine WL.nil ?_
  repeat (first | refine AtExit.thenRet ?_ | refine AtExit.thenExit ?_ | refine AtExit.blockRet ?_ | refine AtExit.blockEnd ?_ | refine AtExit.blockExit ?_ | (refine AtExit.blockPast ?_ ?_; rfl))
  refine AtExit.go ?_
  refine WC.condF rfl ?_
  refine WC.skip ?_
  repeat (first | refine AtExit.thenRet ?_ | refine AtExit.thenExit ?_ | refine AtExit.blockRet ?_ | refine AtExit.blockEnd ?_ | refine AtExit.blockExit ?_ | (refine AtExit.blockPast ?_ ?_; rfl))
  refine AtExit.go ?_
  have bq : ∀ k, k < mq → (Rq k).length ≤ 1000000 := fun k hk => by have := len_le_sum Rq mq k hk; omega
  have br : ∀ k, k < mr → (Rr k).length ≤ 1000000 := fun k hk => by have := len_le_sum Rr mr k hk; omega
  have bw : ∀ k, k < mw → (Rw k).length ≤ 1000000 := fun k hk => by have := len_le_sum Rw mw k hk; omega
  clear sq sr sw tq tr tw htot lq lr lw
  obtain ⟨n, hn⟩ : ∃ n, n = nd % 130 + 1 := ⟨_, rfl⟩
  have hn0 : 0 < n := by omega
  have hn1 : n ≤ 130 := by omega
  refine WC.seq (WC.region ?_)
  repeat (first | (refine WL.val ?_ ?_ (Runs.move rfl) ?_; rfl; rfl) | (refine WL.val ?_ ?_ (Runs.assign rfl) ?_; rfl; rfl) | (refine WL.val ?_ ?_ (Runs.extract rfl rfl) ?_; rfl; rfl) | (refine WL.val ?_ ?_ (Runs.nilCheck rfl) ?_; rfl; rfl) | (refine WL.val ?_ ?_ (Runs.pickT rfl rfl) ?_; rfl; rfl) | (refine WL.val ?_ ?_ (Runs.pickF rfl rfl) ?_; rfl; rfl) | (refine WL.val ?_ ?_ (Runs.len rfl sl22) ?_; rfl; rfl) | (refine WL.val ?_ ?_ (Runs.len rfl sl23) ?_; rfl; rfl) | (refine WL.val ?_ ?_ (Runs.len rfl sl24) ?_; rfl; rfl) | (refine WL.val ?_ ?_ (Runs.len rfl sl26) ?_; rfl; rfl) | (refine WL.val ?_ ?_ (Runs.len rfl sl27) ?_; rfl; rfl) | (refine WL.val ?_ ?_ (Runs.len rfl sl48) ?_; rfl; rfl) | (refine WL.val ?_ ?_ (Runs.len rfl sl60) ?_; rfl; rfl) | (refine WL.pass ?_ ?_ ?_; rfl; rfl))
  refine WL.val rfl rfl (Runs.conv rfl (by rw [Ybad.underlying5]; rfl) Ybad.underlying3 (conv_i64 (nd : Int) (by omega) (by omega))) ?_
  refine WL.val rfl rfl (Runs.rem rfl rfl (by decide) (tmodN nd 130)) ?_
  refine WL.val rfl rfl (Runs.add rfl rfl (wadd (r := (n : Int)) (by omega) (by omega) (by omega))) ?_
  repeat (first | (refine WL.val ?_ ?_ (Runs.move rfl) ?_; rfl; rfl) | (refine WL.val ?_ ?_ (Runs.assign rfl) ?_; rfl; rfl) | (refine WL.val ?_ ?_ (Runs.extract rfl rfl) ?_; rfl; rfl) | (refine WL.val ?_ ?_ (Runs.nilCheck rfl) ?_; rfl; rfl) | (refine WL.val ?_ ?_ (Runs.pickT rfl rfl) ?_; rfl; rfl) | (refine WL.val ?_ ?_ (Runs.pickF rfl rfl) ?_; rfl; rfl) | (refine WL.val ?_ ?_ (Runs.len rfl sl22) ?_; rfl; rfl) | (refine WL.val ?_ ?_ (Runs.len rfl sl23) ?_; rfl; rfl) | (refine WL.val ?_ ?_ (Runs.len rfl sl24) ?_; rfl; rfl) | (refine WL.val ?_ ?_ (Runs.len rfl sl26) ?_; rfl; rfl) | (refine WL.val ?_ ?_ (Runs.len rfl sl27) ?_; rfl; rfl) | (refine WL.val ?_ ?_ (Runs.len rfl sl48) ?_; rfl; rfl) | (refine WL.val ?_ ?_ (Runs.len rfl sl60) ?_; rfl; rfl) | (refine WL.pass ?_ ?_ ?_; rfl; rfl))
  refine WL.nil ?_
  repeat (first | refine AtExit.thenRet ?_ | refine AtExit.thenExit ?_ | refine AtExit.blockRet ?_ | refine AtExit.blockEnd ?_ | refine AtExit.blockExit ?_ | (refine AtExit.blockPast ?_ ?_; rfl))
  refine AtExit.go ?_
  refine WC.seq (WC.region ?_)
  repeat (first | (refine WL.val ?_ ?_ (Runs.move rfl) ?_; rfl; rfl) | (refine WL.val ?_ ?_ (Runs.assign rfl) ?_; rfl; rfl) | (refine WL.val ?_ ?_ (Runs.extract rfl rfl) ?_; rfl; rfl) | (refine WL.val ?_ ?_ (Runs.nilCheck rfl) ?_; rfl; rfl) | (refine WL.val ?_ ?_ (Runs.pickT rfl rfl) ?_; rfl; rfl) | (refine WL.val ?_ ?_ (Runs.pickF rfl rfl) ?_; rfl; rfl) | (refine WL.val ?_ ?_ (Runs.len rfl sl22) ?_; rfl; rfl) | (refine WL.val ?_ ?_ (Runs.len rfl sl23) ?_; rfl; rfl) | (refine WL.val ?_ ?_ (Runs.len rfl sl24) ?_; rfl; rfl) | (refine WL.val ?_ ?_ (Runs.len rfl sl26) ?_; rfl; rfl) | (refine WL.val ?_ ?_ (Runs.len rfl sl27) ?_; rfl; rfl) | (refine WL.val ?_ ?_ (Runs.len rfl sl48) ?_; rfl; rfl) | (refine WL.val ?_ ?_ (Runs.len rfl sl60) ?_; rfl; rfl) | (refine WL.pass ?_ ?_ ?_; rfl; rfl))
  refine WL.val rfl rfl (Runs.make rfl rfl Ybad.underlying24 in9 rfl (by omega) (by omega)) ?_
  repeat (first | (refine WL.val ?_ ?_ (Runs.move rfl) ?_; rfl; rfl) | (refine WL.val ?_ ?_ (Runs.assign rfl) ?_; rfl; rfl) | (refine WL.val ?_ ?_ (Runs.extract rfl rfl) ?_; rfl; rfl) | (refine WL.val ?_ ?_ (Runs.nilCheck rfl) ?_; rfl; rfl) | (refine WL.val ?_ ?_ (Runs.pickT rfl rfl) ?_; rfl; rfl) | (refine WL.val ?_ ?_ (Runs.pickF rfl rfl) ?_; rfl; rfl) | (refine WL.val ?_ ?_ (Runs.len rfl sl22) ?_; rfl; rfl) | (refine WL.val ?_ ?_ (Runs.len rfl sl23) ?_; rfl; rfl) | (refine WL.val ?_ ?_ (Runs.len rfl sl24) ?_; rfl; rfl) | (refine WL.val ?_ ?_ (Runs.len rfl sl26) ?_; rfl; rfl) | (refine WL.val ?_ ?_ (Runs.len rfl sl27) ?_; rfl; rfl) | (refine WL.val ?_ ?_ (Runs.len rfl sl48) ?_; rfl; rfl) | (refine WL.val ?_ ?_ (Runs.len rfl sl60) ?_; rfl; rfl) | (refine WL.pass ?_ ?_ ?_; rfl; rfl))
  refine WL.nil ?_
  repeat (first | refine AtExit.thenRet ?_ | refine AtExit.thenExit ?_ | refine AtExit.blockRet ?_ | refine AtExit.blockEnd ?_ | refine AtExit.blockExit ?_ | (refine AtExit.blockPast ?_ ?_; rfl))
  refine AtExit.go ?_
  refine WC.cut (α := Unit) (fun _ => [(0, .int .u8 (mo : Int)), (2, .slice Aq mq Cq), (3, .slice Ar mr Cr), (4, .slice Aw mw Cw), (5, .string rl), (6, .string wl), (22, .int .i64 (n : Int)), (23, .slice (some ⟨w.heap.size, 0, none⟩) n n)]) (fun _ w' => Below w.heap.size w w') ?_ ?_
  · refine WC.seq (WC.region ?_)
    repeat (first | (refine WL.val ?_ ?_ (Runs.move rfl) ?_; rfl; rfl) | (refine WL.val ?_ ?_ (Runs.assign rfl) ?_; rfl; rfl) | (refine WL.val ?_ ?_ (Runs.extract rfl rfl) ?_; rfl; rfl) | (refine WL.val ?_ ?_ (Runs.nilCheck rfl) ?_; rfl; rfl) | (refine WL.val ?_ ?_ (Runs.pickT rfl rfl) ?_; rfl; rfl) | (refine WL.val ?_ ?_ (Runs.pickF rfl rfl) ?_; rfl; rfl) | (refine WL.val ?_ ?_ (Runs.len rfl sl22) ?_; rfl; rfl) | (refine WL.val ?_ ?_ (Runs.len rfl sl23) ?_; rfl; rfl) | (refine WL.val ?_ ?_ (Runs.len rfl sl24) ?_; rfl; rfl) | (refine WL.val ?_ ?_ (Runs.len rfl sl26) ?_; rfl; rfl) | (refine WL.val ?_ ?_ (Runs.len rfl sl27) ?_; rfl; rfl) | (refine WL.val ?_ ?_ (Runs.len rfl sl48) ?_; rfl; rfl) | (refine WL.val ?_ ?_ (Runs.len rfl sl60) ?_; rfl; rfl) | (refine WL.pass ?_ ?_ ?_; rfl; rfl))
    refine WL.nil ?_
    repeat (first | refine AtExit.thenRet ?_ | refine AtExit.thenExit ?_ | refine AtExit.blockRet ?_ | refine AtExit.blockEnd ?_ | refine AtExit.blockExit ?_ | (refine AtExit.blockPast ?_ ?_; rfl))
    refine AtExit.go ?_
    refine WC.block ?_
    refine WC.loop (α := Nat) (fun k => [(0, .int .u8 (mo : Int)), (2, .slice Aq mq Cq), (3, .slice Ar mr Cr), (4, .slice Aw mw Cw), (5, .string rl), (6, .string wl), (22, .int .i64 (n : Int)), (23, .slice (some ⟨w.heap.size, 0, none⟩) n n), (115, .int .i64 (n : Int)), (116, .int .i64 (k : Int))])
      (fun k w' => k ≤ n ∧ Below w.heap.size w w' ∧ ∃ f, Row w' w.heap.size 9 n f) (fun k => n - k) 0 (by repeat (first | exact Sub.nil _ | refine Sub.cons rfl ?_)) ⟨Nat.zero_le _, below_new w _ (Nat.le_refl _), _, Row.made w 9 n _⟩ ?_
    rintro k w' ⟨hk, hB, f, hf⟩
    refine WC.seq (WC.region ?_)
    by_cases hkn : k < n
    · refine WL.val rfl rfl (Runs.lss rfl rfl (declt hkn)) ?_
      refine WL.nil ?_
      repeat (first | refine AtExit.thenRet ?_ | refine AtExit.thenExit ?_ | refine AtExit.blockRet ?_ | refine AtExit.blockEnd ?_ | refine AtExit.blockExit ?_ | (refine AtExit.blockPast ?_ ?_; rfl))
      refine AtExit.go ?_
      refine WC.seq (WC.condT rfl ?_)
      refine WC.skip ?_
      repeat (first | refine AtExit.thenRet ?_ | refine AtExit.thenExit ?_ | refine AtExit.blockRet ?_ | refine AtExit.blockEnd ?_ | refine AtExit.blockExit ?_ | (refine AtExit.blockPast ?_ ?_; rfl))
      refine AtExit.go ?_
      refine WC.seq (WC.block ?_)
      refine WC.seq (WC.region ?_)
      repeat (first | (refine WL.val ?_ ?_ (Runs.move rfl) ?_; rfl; rfl) | (refine WL.val ?_ ?_ (Runs.assign rfl) ?_; rfl; rfl) | (refine WL.val ?_ ?_ (Runs.extract rfl rfl) ?_; rfl; rfl) | (refine WL.val ?_ ?_ (Runs.nilCheck rfl) ?_; rfl; rfl) | (refine WL.val ?_ ?_ (Runs.pickT rfl rfl) ?_; rfl; rfl) | (refine WL.val ?_ ?_ (Runs.pickF rfl rfl) ?_; rfl; rfl) | (refine WL.val ?_ ?_ (Runs.len rfl sl22) ?_; rfl; rfl) | (refine WL.val ?_ ?_ (Runs.len rfl sl23) ?_; rfl; rfl) | (refine WL.val ?_ ?_ (Runs.len rfl sl24) ?_; rfl; rfl) | (refine WL.val ?_ ?_ (Runs.len rfl sl26) ?_; rfl; rfl) | (refine WL.val ?_ ?_ (Runs.len rfl sl27) ?_; rfl; rfl) | (refine WL.val ?_ ?_ (Runs.len rfl sl48) ?_; rfl; rfl) | (refine WL.val ?_ ?_ (Runs.len rfl sl60) ?_; rfl; rfl) | (refine WL.pass ?_ ?_ ?_; rfl; rfl))
      refine WL.nil ?_
      repeat (first | refine AtExit.thenRet ?_ | refine AtExit.thenExit ?_ | refine AtExit.blockRet ?_ | refine AtExit.blockEnd ?_ | refine AtExit.blockExit ?_ | (refine AtExit.blockPast ?_ ?_; rfl))
      refine AtExit.go ?_
      refine WC.region ?_
      repeat (first | (refine WL.val ?_ ?_ (Runs.move rfl) ?_; rfl; rfl) | (refine WL.val ?_ ?_ (Runs.assign rfl) ?_; rfl; rfl) | (refine WL.val ?_ ?_ (Runs.extract rfl rfl) ?_; rfl; rfl) | (refine WL.val ?_ ?_ (Runs.nilCheck rfl) ?_; rfl; rfl) | (refine WL.val ?_ ?_ (Runs.pickT rfl rfl) ?_; rfl; rfl) | (refine WL.val ?_ ?_ (Runs.pickF rfl rfl) ?_; rfl; rfl) | (refine WL.val ?_ ?_ (Runs.len rfl sl22) ?_; rfl; rfl) | (refine WL.val ?_ ?_ (Runs.len rfl sl23) ?_; rfl; rfl) | (refine WL.val ?_ ?_ (Runs.len rfl sl24) ?_; rfl; rfl) | (refine WL.val ?_ ?_ (Runs.len rfl sl26) ?_; rfl; rfl) | (refine WL.val ?_ ?_ (Runs.len rfl sl27) ?_; rfl; rfl) | (refine WL.val ?_ ?_ (Runs.len rfl sl48) ?_; rfl; rfl) | (refine WL.val ?_ ?_ (Runs.len rfl sl60) ?_; rfl; rfl) | (refine WL.pass ?_ ?_ ?_; rfl; rfl))
      refine WL.val rfl rfl (Runs.add rfl rfl (wadd (r := ((k + 1 : Nat) : Int)) (by omega) (by omega) (by omega))) ?_
      refine WL.call rfl rfl (RunsC.call rfl en4) (itoa_any (k + 1) w' (by omega) (by omega)) ?_
      rintro e w2 ⟨rfl, hB2⟩
      refine ⟨_, rfl, ?_⟩
      have hd := dec_size (k + 1)
      unfold dec at hd
      refine WL.val rfl rfl (Runs.addS rfl rfl (by show 1 + _ ≤ _; omega)) ?_
      refine WL.val rfl rfl (Runs.idx1 rfl rfl Ybad.underlying24 sz9 rfl hkn) ?_
      have hf2 := hf.below hB2 hf.lt
      refine WL.skip rfl (RunsS.store rfl rfl rfl sz9 (hf2.cell0 hkn) (hf2.frozen _)) ?_
      refine WL.nil ?_
      repeat (first | refine AtExit.thenRet ?_ | refine AtExit.thenExit ?_ | refine AtExit.blockRet ?_ | refine AtExit.blockEnd ?_ | refine AtExit.blockExit ?_ | (refine AtExit.blockPast ?_ ?_; rfl))
      refine AtExit.go ?_
      refine WC.region ?_
      refine WL.val rfl rfl (Runs.add rfl rfl (wadd (r := ((k + 1 : Nat) : Int)) (by omega) (by omega) (by omega))) ?_
      repeat (first | (refine WL.val ?_ ?_ (Runs.move rfl) ?_; rfl; rfl) | (refine WL.val ?_ ?_ (Runs.assign rfl) ?_; rfl; rfl) | (refine WL.val ?_ ?_ (Runs.extract rfl rfl) ?_; rfl; rfl) | (refine WL.val ?_ ?_ (Runs.nilCheck rfl) ?_; rfl; rfl) | (refine WL.val ?_ ?_ (Runs.pickT rfl rfl) ?_; rfl; rfl) | (refine WL.val ?_ ?_ (Runs.pickF rfl rfl) ?_; rfl; rfl) | (refine WL.val ?_ ?_ (Runs.len rfl sl22) ?_; rfl; rfl) | (refine WL.val ?_ ?_ (Runs.len rfl sl23) ?_; rfl; rfl) | (refine WL.val ?_ ?_ (Runs.len rfl sl24) ?_; rfl; rfl) | (refine WL.val ?_ ?_ (Runs.len rfl sl26) ?_; rfl; rfl) | (refine WL.val ?_ ?_ (Runs.len rfl sl27) ?_; rfl; rfl) | (refine WL.val ?_ ?_ (Runs.len rfl sl48) ?_; rfl; rfl) | (refine WL.val ?_ ?_ (Runs.len rfl sl60) ?_; rfl; rfl) | (refine WL.pass ?_ ?_ ?_; rfl; rfl))
      refine WL.nil ?_
      repeat (first | refine AtExit.thenRet ?_ | refine AtExit.thenExit ?_ | refine AtExit.blockRet ?_ | refine AtExit.blockEnd ?_ | refine AtExit.blockExit ?_ | (refine AtExit.blockPast ?_ ?_; rfl))
      refine AtExit.inv fun a ha => ⟨k + 1, ha.sub (by repeat (first | exact Sub.nil _ | refine Sub.cons rfl ?_)), ⟨by omega, (Below.up hB hB2).trans (below_set _ _ (Nat.le_refl _)), _, hf2.set _ _⟩, by omega⟩
    · refine WL.val rfl rfl (Runs.lss rfl rfl (decge hkn)) ?_
      refine WL.nil ?_
      repeat (first | refine AtExit.thenRet ?_ | refine AtExit.thenExit ?_ | refine AtExit.blockRet ?_ | refine AtExit.blockEnd ?_ | refine AtExit.blockExit ?_ | (refine AtExit.blockPast ?_ ?_; rfl))
      refine AtExit.go ?_
      refine WC.seq (WC.condF rfl ?_)
      refine WC.exit ?_
      repeat (first | refine AtExit.thenRet ?_ | refine AtExit.thenExit ?_ | refine AtExit.blockRet ?_ | refine AtExit.blockEnd ?_ | refine AtExit.blockExit ?_ | (refine AtExit.blockPast ?_ ?_; rfl))
      refine AtExit.inv fun a ha => ⟨(), ha.sub (by repeat (first | exact Sub.nil _ | refine Sub.cons rfl ?_)), hB⟩
  rintro _ w1 hB1
  obtain ⟨nb, hnb⟩ : ∃ v, v = w.heap.size := ⟨_, rfl⟩
  rw [← hnb]
  have hq' := hq.up hB1
  have hr' := hr.up hB1
  have hw' := hw.up hB1
  have ht1 := ht.below hB1 ht.pos
  have hW3 : (n + 63) / 64 ≤ 3 := by omega
  refine WC.seq (WC.region ?_)
  repeat (first | (refine WL.val ?_ ?_ (Runs.move rfl) ?_; rfl; rfl) | (refine WL.val ?_ ?_ (Runs.assign rfl) ?_; rfl; rfl) | (refine WL.val ?_ ?_ (Runs.extract rfl rfl) ?_; rfl; rfl) | (refine WL.val ?_ ?_ (Runs.nilCheck rfl) ?_; rfl; rfl) | (refine WL.val ?_ ?_ (Runs.pickT rfl rfl) ?_; rfl; rfl) | (refine WL.val ?_ ?_ (Runs.pickF rfl rfl) ?_; rfl; rfl) | (refine WL.val ?_ ?_ (Runs.len rfl sl22) ?_; rfl; rfl) | (refine WL.val ?_ ?_ (Runs.len rfl sl23) ?_; rfl; rfl) | (refine WL.val ?_ ?_ (Runs.len rfl sl24) ?_; rfl; rfl) | (refine WL.val ?_ ?_ (Runs.len rfl sl26) ?_; rfl; rfl) | (refine WL.val ?_ ?_ (Runs.len rfl sl27) ?_; rfl; rfl) | (refine WL.val ?_ ?_ (Runs.len rfl sl48) ?_; rfl; rfl) | (refine WL.val ?_ ?_ (Runs.len rfl sl60) ?_; rfl; rfl) | (refine WL.pass ?_ ?_ ?_; rfl; rfl))
  refine WL.val rfl rfl (Runs.rem rfl rfl (by decide) (tmodN mo 3)) ?_
  refine WL.nil ?_
  repeat (first | refine AtExit.thenRet ?_ | refine AtExit.thenExit ?_ | refine AtExit.blockRet ?_ | refine AtExit.blockEnd ?_ | refine AtExit.blockExit ?_ | (refine AtExit.blockPast ?_ ?_; rfl))
  refine AtExit.go ?_
  refine WC.block ?_
  refine WC.seq (WC.region ?_)
  by_cases hm0 : mo % 3 = 0
  · refine WL.val rfl rfl (Runs.eql rfl rfl (r := true) (by rw [hm0]; rfl)) ?_
    repeat (first | (refine WL.val ?_ ?_ (Runs.move rfl) ?_; rfl; rfl) | (refine WL.val ?_ ?_ (Runs.assign rfl) ?_; rfl; rfl) | (refine WL.val ?_ ?_ (Runs.extract rfl rfl) ?_; rfl; rfl) | (refine WL.val ?_ ?_ (Runs.nilCheck rfl) ?_; rfl; rfl) | (refine WL.val ?_ ?_ (Runs.pickT rfl rfl) ?_; rfl; rfl) | (refine WL.val ?_ ?_ (Runs.pickF rfl rfl) ?_; rfl; rfl) | (refine WL.val ?_ ?_ (Runs.len rfl sl22) ?_; rfl; rfl) | (refine WL.val ?_ ?_ (Runs.len rfl sl23) ?_; rfl; rfl) | (refine WL.val ?_ ?_ (Runs.len rfl sl24) ?_; rfl; rfl) | (refine WL.val ?_ ?_ (Runs.len rfl sl26) ?_; rfl; rfl) | (refine WL.val ?_ ?_ (Runs.len rfl sl27) ?_; rfl; rfl) | (refine WL.val ?_ ?_ (Runs.len rfl sl48) ?_; rfl; rfl) | (refine WL.val ?_ ?_ (Runs.len rfl sl60) ?_; rfl; rfl) | (refine WL.pass ?_ ?_ ?_; rfl; rfl))
    refine WL.nil ?_
    repeat (first | refine AtExit.thenRet ?_ | refine AtExit.thenExit ?_ | refine AtExit.blockRet ?_ | refine AtExit.blockEnd ?_ | refine AtExit.blockExit ?_ | (refine AtExit.blockPast ?_ ?_; rfl))
    refine AtExit.go ?_
    refine WC.condT rfl ?_
    refine WC.seq (WC.region ?_)
    repeat (first | (refine WL.val ?_ ?_ (Runs.move rfl) ?_; rfl; rfl) | (refine WL.val ?_ ?_ (Runs.assign rfl) ?_; rfl; rfl) | (refine WL.val ?_ ?_ (Runs.extract rfl rfl) ?_; rfl; rfl) | (refine WL.val ?_ ?_ (Runs.nilCheck rfl) ?_; rfl; rfl) | (refine WL.val ?_ ?_ (Runs.pickT rfl rfl) ?_; rfl; rfl) | (refine WL.val ?_ ?_ (Runs.pickF rfl rfl) ?_; rfl; rfl) | (refine WL.val ?_ ?_ (Runs.len rfl sl22) ?_; rfl; rfl) | (refine WL.val ?_ ?_ (Runs.len rfl sl23) ?_; rfl; rfl) | (refine WL.val ?_ ?_ (Runs.len rfl sl24) ?_; rfl; rfl) | (refine WL.val ?_ ?_ (Runs.len rfl sl26) ?_; rfl; rfl) | (refine WL.val ?_ ?_ (Runs.len rfl sl27) ?_; rfl; rfl) | (refine WL.val ?_ ?_ (Runs.len rfl sl48) ?_; rfl; rfl) | (refine WL.val ?_ ?_ (Runs.len rfl sl60) ?_; rfl; rfl) | (refine WL.pass ?_ ?_ ?_; rfl; rfl))
    refine WL.call rfl rfl (RunsC.call rfl en5) (build_any n Aq mq Cq Rq w1 hn0 hn1 (by omega) bq hq') ?_
    rintro e w2 ⟨b1, b2, rfl, hs2, hm2, hB2⟩
    refine ⟨_, rfl, ?_⟩
    repeat (first | (refine WL.val ?_ ?_ (Runs.move rfl) ?_; rfl; rfl) | (refine WL.val ?_ ?_ (Runs.assign rfl) ?_; rfl; rfl) | (refine WL.val ?_ ?_ (Runs.extract rfl rfl) ?_; rfl; rfl) | (refine WL.val ?_ ?_ (Runs.nilCheck rfl) ?_; rfl; rfl) | (refine WL.val ?_ ?_ (Runs.pickT rfl rfl) ?_; rfl; rfl) | (refine WL.val ?_ ?_ (Runs.pickF rfl rfl) ?_; rfl; rfl) | (refine WL.val ?_ ?_ (Runs.len rfl sl22) ?_; rfl; rfl) | (refine WL.val ?_ ?_ (Runs.len rfl sl23) ?_; rfl; rfl) | (refine WL.val ?_ ?_ (Runs.len rfl sl24) ?_; rfl; rfl) | (refine WL.val ?_ ?_ (Runs.len rfl sl26) ?_; rfl; rfl) | (refine WL.val ?_ ?_ (Runs.len rfl sl27) ?_; rfl; rfl) | (refine WL.val ?_ ?_ (Runs.len rfl sl48) ?_; rfl; rfl) | (refine WL.val ?_ ?_ (Runs.len rfl sl60) ?_; rfl; rfl) | (refine WL.pass ?_ ?_ ?_; rfl; rfl))
    refine WL.nil ?_
    repeat (first | refine AtExit.thenRet ?_ | refine AtExit.thenExit ?_ | refine AtExit.blockRet ?_ | refine AtExit.blockEnd ?_ | refine AtExit.blockExit ?_ | (refine AtExit.blockPast ?_ ?_; rfl))
    refine AtExit.go ?_
    refine WC.seq (WC.region ?_)
    repeat (first | (refine WL.val ?_ ?_ (Runs.move rfl) ?_; rfl; rfl) | (refine WL.val ?_ ?_ (Runs.assign rfl) ?_; rfl; rfl) | (refine WL.val ?_ ?_ (Runs.extract rfl rfl) ?_; rfl; rfl) | (refine WL.val ?_ ?_ (Runs.nilCheck rfl) ?_; rfl; rfl) | (refine WL.val ?_ ?_ (Runs.pickT rfl rfl) ?_; rfl; rfl) | (refine WL.val ?_ ?_ (Runs.pickF rfl rfl) ?_; rfl; rfl) | (refine WL.val ?_ ?_ (Runs.len rfl sl22) ?_; rfl; rfl) | (refine WL.val ?_ ?_ (Runs.len rfl sl23) ?_; rfl; rfl) | (refine WL.val ?_ ?_ (Runs.len rfl sl24) ?_; rfl; rfl) | (refine WL.val ?_ ?_ (Runs.len rfl sl26) ?_; rfl; rfl) | (refine WL.val ?_ ?_ (Runs.len rfl sl27) ?_; rfl; rfl) | (refine WL.val ?_ ?_ (Runs.len rfl sl48) ?_; rfl; rfl) | (refine WL.val ?_ ?_ (Runs.len rfl sl60) ?_; rfl; rfl) | (refine WL.pass ?_ ?_ ?_; rfl; rfl))
    refine WL.call rfl rfl (RunsC.call rfl en6) (clone_any b1 mq ((n + 63) / 64) _ w2 (by omega) hW3 hs2) ?_
    rintro e w3 ⟨b3, rfl, hs3, hB3⟩
    refine ⟨_, rfl, ?_⟩
    repeat (first | (refine WL.val ?_ ?_ (Runs.move rfl) ?_; rfl; rfl) | (refine WL.val ?_ ?_ (Runs.assign rfl) ?_; rfl; rfl) | (refine WL.val ?_ ?_ (Runs.extract rfl rfl) ?_; rfl; rfl) | (refine WL.val ?_ ?_ (Runs.nilCheck rfl) ?_; rfl; rfl) | (refine WL.val ?_ ?_ (Runs.pickT rfl rfl) ?_; rfl; rfl) | (refine WL.val ?_ ?_ (Runs.pickF rfl rfl) ?_; rfl; rfl) | (refine WL.val ?_ ?_ (Runs.len rfl sl22) ?_; rfl; rfl) | (refine WL.val ?_ ?_ (Runs.len rfl sl23) ?_; rfl; rfl) | (refine WL.val ?_ ?_ (Runs.len rfl sl24) ?_; rfl; rfl) | (refine WL.val ?_ ?_ (Runs.len rfl sl26) ?_; rfl; rfl) | (refine WL.val ?_ ?_ (Runs.len rfl sl27) ?_; rfl; rfl) | (refine WL.val ?_ ?_ (Runs.len rfl sl48) ?_; rfl; rfl) | (refine WL.val ?_ ?_ (Runs.len rfl sl60) ?_; rfl; rfl) | (refine WL.pass ?_ ?_ ?_; rfl; rfl))
    refine WL.nil ?_
    repeat (first | refine AtExit.thenRet ?_ | refine AtExit.thenExit ?_ | refine AtExit.blockRet ?_ | refine AtExit.blockEnd ?_ | refine AtExit.blockExit ?_ | (refine AtExit.blockPast ?_ ?_; rfl))
    refine AtExit.go ?_
    refine WC.seq (WC.region ?_)
    repeat (first | (refine WL.val ?_ ?_ (Runs.move rfl) ?_; rfl; rfl) | (refine WL.val ?_ ?_ (Runs.assign rfl) ?_; rfl; rfl) | (refine WL.val ?_ ?_ (Runs.extract rfl rfl) ?_; rfl; rfl) | (refine WL.val ?_ ?_ (Runs.nilCheck rfl) ?_; rfl; rfl) | (refine WL.val ?_ ?_ (Runs.pickT rfl rfl) ?_; rfl; rfl) | (refine WL.val ?_ ?_ (Runs.pickF rfl rfl) ?_; rfl; rfl) | (refine WL.val ?_ ?_ (Runs.len rfl sl22) ?_; rfl; rfl) | (refine WL.val ?_ ?_ (Runs.len rfl sl23) ?_; rfl; rfl) | (refine WL.val ?_ ?_ (Runs.len rfl sl24) ?_; rfl; rfl) | (refine WL.val ?_ ?_ (Runs.len rfl sl26) ?_; rfl; rfl) | (refine WL.val ?_ ?_ (Runs.len rfl sl27) ?_; rfl; rfl) | (refine WL.val ?_ ?_ (Runs.len rfl sl48) ?_; rfl; rfl) | (refine WL.val ?_ ?_ (Runs.len rfl sl60) ?_; rfl; rfl) | (refine WL.pass ?_ ?_ ?_; rfl; rfl))
    refine WL.val rfl rfl (Runs.build (cs := #[.slice (some ⟨nb, 0, none⟩) n n, .slice (some ⟨b1, 0, none⟩) mq mq]) rfl (by kernel_rfl)) ?_
    refine WL.val rfl rfl (Runs.box rfl) ?_
    refine WL.val rfl rfl (Runs.build (cs := #[.slice none 0 0, .string ⟨#[101, 120, 112, 108, 105, 99, 105, 116]⟩, .nilIface, .pointer (some ⟨w3.heap.size, 0, none⟩), .string ⟨#[]⟩, .slice none 0 0, .pointer none]) rfl (by kernel_rfl)) ?_
    refine WL.val rfl rfl (Runs.box rfl) ?_
    repeat (first | (refine WL.val ?_ ?_ (Runs.move rfl) ?_; rfl; rfl) | (refine WL.val ?_ ?_ (Runs.assign rfl) ?_; rfl; rfl) | (refine WL.val ?_ ?_ (Runs.extract rfl rfl) ?_; rfl; rfl) | (refine WL.val ?_ ?_ (Runs.nilCheck rfl) ?_; rfl; rfl) | (refine WL.val ?_ ?_ (Runs.pickT rfl rfl) ?_; rfl; rfl) | (refine WL.val ?_ ?_ (Runs.pickF rfl rfl) ?_; rfl; rfl) | (refine WL.val ?_ ?_ (Runs.len rfl sl22) ?_; rfl; rfl) | (refine WL.val ?_ ?_ (Runs.len rfl sl23) ?_; rfl; rfl) | (refine WL.val ?_ ?_ (Runs.len rfl sl24) ?_; rfl; rfl) | (refine WL.val ?_ ?_ (Runs.len rfl sl26) ?_; rfl; rfl) | (refine WL.val ?_ ?_ (Runs.len rfl sl27) ?_; rfl; rfl) | (refine WL.val ?_ ?_ (Runs.len rfl sl48) ?_; rfl; rfl) | (refine WL.val ?_ ?_ (Runs.len rfl sl60) ?_; rfl; rfl) | (refine WL.pass ?_ ?_ ?_; rfl; rfl))
    refine WL.nil ?_
    repeat (first | refine AtExit.thenRet ?_ | refine AtExit.thenExit ?_ | refine AtExit.blockRet ?_ | refine AtExit.blockEnd ?_ | refine AtExit.blockExit ?_ | (refine AtExit.blockPast ?_ ?_; rfl))
    refine AtExit.go ?_
    rw [size_new]
    obtain ⟨c1, c2, hB4⟩ := two_new w3 (.cells (Value.agg #[.slice (some ⟨nb, 0, none⟩) n n, .slice (some ⟨b1, 0, none⟩) mq mq]).cells 34) (.cells (Value.agg #[.slice none 0 0, .string ⟨#[101, 120, 112, 108, 105, 99, 105, 116]⟩, .nilIface, .pointer (some ⟨w3.heap.size, 0, none⟩), .string ⟨#[]⟩, .slice none 0 0, .pointer none]).cells 44)
    generalize (w3.alloc (.cells (Value.agg #[.slice (some ⟨nb, 0, none⟩) n n, .slice (some ⟨b1, 0, none⟩) mq mq]).cells 34)).alloc (.cells (Value.agg #[.slice none 0 0, .string ⟨#[101, 120, 112, 108, 105, 99, 105, 116]⟩, .nilIface, .pointer (some ⟨w3.heap.size, 0, none⟩), .string ⟨#[]⟩, .slice none 0 0, .pointer none]).cells 44) = w4 at c1 c2 hB4 ⊢
    generalize w3.heap.size = p1 at c1 c2 ⊢
    have hs4 := (hs2.up hB3).up hB4
    have hk4 := hs3.up hB4
    have hm4 := (hm2.up hB3).up hB4
    have hB14 := Below.up (Below.up (Below.up hB1 hB2) hB3) hB4
    have ht4 := ht.below hB14 ht.pos
    obtain ⟨i0, j0, ok0, hF0, hi0, hj0⟩ := FirstAt.thereIs (apart ((n + 63) / 64) (fun k j => wordOf n (Rq k) j) (fun k j => wordOf n (Rq k) j)) (fun i => i + 1) mq mq
    refine WC.seq (WC.region ?_)
    repeat (first | (refine WL.val ?_ ?_ (Runs.move rfl) ?_; rfl; rfl) | (refine WL.val ?_ ?_ (Runs.assign rfl) ?_; rfl; rfl) | (refine WL.val ?_ ?_ (Runs.extract rfl rfl) ?_; rfl; rfl) | (refine WL.val ?_ ?_ (Runs.nilCheck rfl) ?_; rfl; rfl) | (refine WL.val ?_ ?_ (Runs.pickT rfl rfl) ?_; rfl; rfl) | (refine WL.val ?_ ?_ (Runs.pickF rfl rfl) ?_; rfl; rfl) | (refine WL.val ?_ ?_ (Runs.len rfl sl22) ?_; rfl; rfl) | (refine WL.val ?_ ?_ (Runs.len rfl sl23) ?_; rfl; rfl) | (refine WL.val ?_ ?_ (Runs.len rfl sl24) ?_; rfl; rfl) | (refine WL.val ?_ ?_ (Runs.len rfl sl26) ?_; rfl; rfl) | (refine WL.val ?_ ?_ (Runs.len rfl sl27) ?_; rfl; rfl) | (refine WL.val ?_ ?_ (Runs.len rfl sl48) ?_; rfl; rfl) | (refine WL.val ?_ ?_ (Runs.len rfl sl60) ?_; rfl; rfl) | (refine WL.pass ?_ ?_ ?_; rfl; rfl))
    refine WL.call rfl rfl (RunsC.call rfl en7) (dis_fam (p1 + 1) p1 b1 mq ((n + 63) / 64) _ w4 ht4 (by omega) hW3 hs4 (lt_of_heap c1) (by rw [cell_of c2]; rfl) (by rw [cell_of c2]; rfl) (by rw [cell_of c2]; rfl) (by rw [cell_of c1]; rfl) i0 j0 ok0 (by omega) (by omega) hF0) ?_
    rintro e w5 ⟨rfl, hB5⟩
    refine ⟨_, rfl, ?_⟩
    repeat (first | (refine WL.val ?_ ?_ (Runs.move rfl) ?_; rfl; rfl) | (refine WL.val ?_ ?_ (Runs.assign rfl) ?_; rfl; rfl) | (refine WL.val ?_ ?_ (Runs.extract rfl rfl) ?_; rfl; rfl) | (refine WL.val ?_ ?_ (Runs.nilCheck rfl) ?_; rfl; rfl) | (refine WL.val ?_ ?_ (Runs.pickT rfl rfl) ?_; rfl; rfl) | (refine WL.val ?_ ?_ (Runs.pickF rfl rfl) ?_; rfl; rfl) | (refine WL.val ?_ ?_ (Runs.len rfl sl22) ?_; rfl; rfl) | (refine WL.val ?_ ?_ (Runs.len rfl sl23) ?_; rfl; rfl) | (refine WL.val ?_ ?_ (Runs.len rfl sl24) ?_; rfl; rfl) | (refine WL.val ?_ ?_ (Runs.len rfl sl26) ?_; rfl; rfl) | (refine WL.val ?_ ?_ (Runs.len rfl sl27) ?_; rfl; rfl) | (refine WL.val ?_ ?_ (Runs.len rfl sl48) ?_; rfl; rfl) | (refine WL.val ?_ ?_ (Runs.len rfl sl60) ?_; rfl; rfl) | (refine WL.pass ?_ ?_ ?_; rfl; rfl))
    refine WL.nil ?_
    repeat (first | refine AtExit.thenRet ?_ | refine AtExit.thenExit ?_ | refine AtExit.blockRet ?_ | refine AtExit.blockEnd ?_ | refine AtExit.blockExit ?_ | (refine AtExit.blockPast ?_ ?_; rfl))
    refine AtExit.go ?_
    have c1' := below_heap hB5 (lt_of_heap c1) c1
    have c2' := below_heap hB5 (lt_of_heap c2) c2
    have hs5 := hs4.up hB5
    have hk5 := hk4.up hB5
    have hm5 := hm4.up hB5
    have hB15 := Below.up hB14 hB5
    clear c1 c2 hs4 hk4 hm4 hs2 hs3 hm2 hB2 hB3 hB4 hB5 hB14
    obtain ⟨hlt, blk, q1, q2⟩ := hm5
    have hF1 : FirstAt (fun i j => !anyLt (fun v => memOf n (Rq i) v && memOf n (Rq j) v) n) (fun i => i + 1) mq mq i0 j0 ok0 := hF0.congr fun i j _ _ => apart_eq n hn0 Rq Rq i j
    generalize hpm : (fun i j => !anyLt (fun v => memOf n (Rq i) v && memOf n (Rq j) v) n) = pm at hF1
    have hpm' : ∀ i j, (!anyLt (fun v => memOf n (Rq i) v && memOf n (Rq j) v) n) = pm i j := fun i j => by rw [← hpm]
    refine WC.seq (WC.region ?_)
    repeat (first | (refine WL.val ?_ ?_ (Runs.move rfl) ?_; rfl; rfl) | (refine WL.val ?_ ?_ (Runs.assign rfl) ?_; rfl; rfl) | (refine WL.val ?_ ?_ (Runs.extract rfl rfl) ?_; rfl; rfl) | (refine WL.val ?_ ?_ (Runs.nilCheck rfl) ?_; rfl; rfl) | (refine WL.val ?_ ?_ (Runs.pickT rfl rfl) ?_; rfl; rfl) | (refine WL.val ?_ ?_ (Runs.pickF rfl rfl) ?_; rfl; rfl) | (refine WL.val ?_ ?_ (Runs.len rfl sl22) ?_; rfl; rfl) | (refine WL.val ?_ ?_ (Runs.len rfl sl23) ?_; rfl; rfl) | (refine WL.val ?_ ?_ (Runs.len rfl sl24) ?_; rfl; rfl) | (refine WL.val ?_ ?_ (Runs.len rfl sl26) ?_; rfl; rfl) | (refine WL.val ?_ ?_ (Runs.len rfl sl27) ?_; rfl; rfl) | (refine WL.val ?_ ?_ (Runs.len rfl sl48) ?_; rfl; rfl) | (refine WL.val ?_ ?_ (Runs.len rfl sl60) ?_; rfl; rfl) | (refine WL.pass ?_ ?_ ?_; rfl; rfl))
    refine WL.nil ?_
    repeat (first | refine AtExit.thenRet ?_ | refine AtExit.thenExit ?_ | refine AtExit.blockRet ?_ | refine AtExit.blockEnd ?_ | refine AtExit.blockExit ?_ | (refine AtExit.blockPast ?_ ?_; rfl))
    refine AtExit.go ?_
    refine WC.cut (α := Bool × ByteArray × ByteArray) (fun x => [(27, .slice (some ⟨b3, 0, none⟩) mq mq), (28, .pointer (some ⟨p1 + 1, 0, none⟩)), (29, .string (⟨#[81]⟩ ++ dec (i0 + 1))), (30, .string (⟨#[81]⟩ ++ dec (j0 + 1))), (31, .bool ok0), (34, .bool x.1), (32, .string x.2.1), (33, .string x.2.2)])
      (fun x w' => Below w5.heap.size w5 w' ∧ x.1 = ok0 ∧ x.2.1 = ⟨#[81]⟩ ++ dec (i0 + 1) ∧ x.2.2 = ⟨#[81]⟩ ++ dec (j0 + 1)) ?_ ?_
    · refine WC.seq (WC.region ?_)
      repeat (first | (refine WL.val ?_ ?_ (Runs.move rfl) ?_; rfl; rfl) | (refine WL.val ?_ ?_ (Runs.assign rfl) ?_; rfl; rfl) | (refine WL.val ?_ ?_ (Runs.extract rfl rfl) ?_; rfl; rfl) | (refine WL.val ?_ ?_ (Runs.nilCheck rfl) ?_; rfl; rfl) | (refine WL.val ?_ ?_ (Runs.pickT rfl rfl) ?_; rfl; rfl) | (refine WL.val ?_ ?_ (Runs.pickF rfl rfl) ?_; rfl; rfl) | (refine WL.val ?_ ?_ (Runs.len rfl sl22) ?_; rfl; rfl) | (refine WL.val ?_ ?_ (Runs.len rfl sl23) ?_; rfl; rfl) | (refine WL.val ?_ ?_ (Runs.len rfl sl24) ?_; rfl; rfl) | (refine WL.val ?_ ?_ (Runs.len rfl sl26) ?_; rfl; rfl) | (refine WL.val ?_ ?_ (Runs.len rfl sl27) ?_; rfl; rfl) | (refine WL.val ?_ ?_ (Runs.len rfl sl48) ?_; rfl; rfl) | (refine WL.val ?_ ?_ (Runs.len rfl sl60) ?_; rfl; rfl) | (refine WL.pass ?_ ?_ ?_; rfl; rfl))
      refine WL.nil ?_
      repeat (first | refine AtExit.thenRet ?_ | refine AtExit.thenExit ?_ | refine AtExit.blockRet ?_ | refine AtExit.blockEnd ?_ | refine AtExit.blockExit ?_ | (refine AtExit.blockPast ?_ ?_; rfl))
      refine AtExit.go ?_
      refine WC.block ?_
      refine WC.loop (α := Nat × Bool × ByteArray × ByteArray) (fun x => [(27, .slice (some ⟨b3, 0, none⟩) mq mq), (28, .pointer (some ⟨p1 + 1, 0, none⟩)), (29, .string (⟨#[81]⟩ ++ dec (i0 + 1))), (30, .string (⟨#[81]⟩ ++ dec (j0 + 1))), (31, .bool ok0), (34, .bool x.2.1), (32, .string x.2.2.1), (33, .string x.2.2.2),
          (26, .slice (some ⟨b2, 0, none⟩) mq mq), (35, .int .i64 (x.1 : Int))])
        (fun x w' => Below w5.heap.size w5 w' ∧ x.1 ≤ mq ∧ Sofar pm (fun i => i + 1) mq mq ⟨#[81]⟩ ⟨#[81]⟩ x.1 x.2.1 x.2.2.1 x.2.2.2) (fun x => mq - x.1) (0, false, ⟨#[81, 49]⟩, ⟨#[81, 49]⟩) (by repeat (first | exact Sub.nil _ | refine Sub.cons rfl ?_))
        ⟨Below.refl _ _, Nat.zero_le _, Or.inl ⟨rfl, q1_eq, q1_eq, fun i' j' h => absurd h (Nat.not_lt_zero _)⟩⟩ ?_
      rintro ⟨i, eok, ea, eb⟩ w6 ⟨hB6, hi, hso⟩
      dsimp only at hi hso
      refine WC.seq ?_
      refine WC.seq (WC.region ?_)
      repeat (first | (refine WL.val ?_ ?_ (Runs.move rfl) ?_; rfl; rfl) | (refine WL.val ?_ ?_ (Runs.assign rfl) ?_; rfl; rfl) | (refine WL.val ?_ ?_ (Runs.extract rfl rfl) ?_; rfl; rfl) | (refine WL.val ?_ ?_ (Runs.nilCheck rfl) ?_; rfl; rfl) | (refine WL.val ?_ ?_ (Runs.pickT rfl rfl) ?_; rfl; rfl) | (refine WL.val ?_ ?_ (Runs.pickF rfl rfl) ?_; rfl; rfl) | (refine WL.val ?_ ?_ (Runs.len rfl sl22) ?_; rfl; rfl) | (refine WL.val ?_ ?_ (Runs.len rfl sl23) ?_; rfl; rfl) | (refine WL.val ?_ ?_ (Runs.len rfl sl24) ?_; rfl; rfl) | (refine WL.val ?_ ?_ (Runs.len rfl sl26) ?_; rfl; rfl) | (refine WL.val ?_ ?_ (Runs.len rfl sl27) ?_; rfl; rfl) | (refine WL.val ?_ ?_ (Runs.len rfl sl48) ?_; rfl; rfl) | (refine WL.val ?_ ?_ (Runs.len rfl sl60) ?_; rfl; rfl) | (refine WL.pass ?_ ?_ ?_; rfl; rfl))
      by_cases him : i < mq
      · refine WL.val rfl rfl (Runs.lss rfl rfl (declt him)) ?_
        repeat (first | (refine WL.val ?_ ?_ (Runs.move rfl) ?_; rfl; rfl) | (refine WL.val ?_ ?_ (Runs.assign rfl) ?_; rfl; rfl) | (refine WL.val ?_ ?_ (Runs.extract rfl rfl) ?_; rfl; rfl) | (refine WL.val ?_ ?_ (Runs.nilCheck rfl) ?_; rfl; rfl) | (refine WL.val ?_ ?_ (Runs.pickT rfl rfl) ?_; rfl; rfl) | (refine WL.val ?_ ?_ (Runs.pickF rfl rfl) ?_; rfl; rfl) | (refine WL.val ?_ ?_ (Runs.len rfl sl22) ?_; rfl; rfl) | (refine WL.val ?_ ?_ (Runs.len rfl sl23) ?_; rfl; rfl) | (refine WL.val ?_ ?_ (Runs.len rfl sl24) ?_; rfl; rfl) | (refine WL.val ?_ ?_ (Runs.len rfl sl26) ?_; rfl; rfl) | (refine WL.val ?_ ?_ (Runs.len rfl sl27) ?_; rfl; rfl) | (refine WL.val ?_ ?_ (Runs.len rfl sl48) ?_; rfl; rfl) | (refine WL.val ?_ ?_ (Runs.len rfl sl60) ?_; rfl; rfl) | (refine WL.pass ?_ ?_ ?_; rfl; rfl))
        cases eok with
        | true =>
          refine WL.val rfl rfl (Runs.not rfl) ?_
          repeat (first | (refine WL.val ?_ ?_ (Runs.move rfl) ?_; rfl; rfl) | (refine WL.val ?_ ?_ (Runs.assign rfl) ?_; rfl; rfl) | (refine WL.val ?_ ?_ (Runs.extract rfl rfl) ?_; rfl; rfl) | (refine WL.val ?_ ?_ (Runs.nilCheck rfl) ?_; rfl; rfl) | (refine WL.val ?_ ?_ (Runs.pickT rfl rfl) ?_; rfl; rfl) | (refine WL.val ?_ ?_ (Runs.pickF rfl rfl) ?_; rfl; rfl) | (refine WL.val ?_ ?_ (Runs.len rfl sl22) ?_; rfl; rfl) | (refine WL.val ?_ ?_ (Runs.len rfl sl23) ?_; rfl; rfl) | (refine WL.val ?_ ?_ (Runs.len rfl sl24) ?_; rfl; rfl) | (refine WL.val ?_ ?_ (Runs.len rfl sl26) ?_; rfl; rfl) | (refine WL.val ?_ ?_ (Runs.len rfl sl27) ?_; rfl; rfl) | (refine WL.val ?_ ?_ (Runs.len rfl sl48) ?_; rfl; rfl) | (refine WL.val ?_ ?_ (Runs.len rfl sl60) ?_; rfl; rfl) | (refine WL.pass ?_ ?_ ?_; rfl; rfl))
          refine WL.nil ?_
          repeat (first | refine AtExit.thenRet ?_ | refine AtExit.thenExit ?_ | refine AtExit.blockRet ?_ | refine AtExit.blockEnd ?_ | refine AtExit.blockExit ?_ | (refine AtExit.blockPast ?_ ?_; rfl))
          refine AtExit.go ?_
          refine WC.condF rfl ?_
          obtain ⟨e1, e2, e3⟩ := hso.fin (fun h => by cases h) hF1
          refine WC.exit ?_
          repeat (first | refine AtExit.thenRet ?_ | refine AtExit.thenExit ?_ | refine AtExit.blockRet ?_ | refine AtExit.blockEnd ?_ | refine AtExit.blockExit ?_ | (refine AtExit.blockPast ?_ ?_; rfl))
          refine AtExit.inv fun a ha => ⟨(true, ea, eb), ha.sub (by repeat (first | exact Sub.nil _ | refine Sub.cons rfl ?_)), hB6, e1, e2, e3⟩
        | false =>
          refine WL.val rfl rfl (Runs.not rfl) ?_
          repeat (first | (refine WL.val ?_ ?_ (Runs.move rfl) ?_; rfl; rfl) | (refine WL.val ?_ ?_ (Runs.assign rfl) ?_; rfl; rfl) | (refine WL.val ?_ ?_ (Runs.extract rfl rfl) ?_; rfl; rfl) | (refine WL.val ?_ ?_ (Runs.nilCheck rfl) ?_; rfl; rfl) | (refine WL.val ?_ ?_ (Runs.pickT rfl rfl) ?_; rfl; rfl) | (refine WL.val ?_ ?_ (Runs.pickF rfl rfl) ?_; rfl; rfl) | (refine WL.val ?_ ?_ (Runs.len rfl sl22) ?_; rfl; rfl) | (refine WL.val ?_ ?_ (Runs.len rfl sl23) ?_; rfl; rfl) | (refine WL.val ?_ ?_ (Runs.len rfl sl24) ?_; rfl; rfl) | (refine WL.val ?_ ?_ (Runs.len rfl sl26) ?_; rfl; rfl) | (refine WL.val ?_ ?_ (Runs.len rfl sl27) ?_; rfl; rfl) | (refine WL.val ?_ ?_ (Runs.len rfl sl48) ?_; rfl; rfl) | (refine WL.val ?_ ?_ (Runs.len rfl sl60) ?_; rfl; rfl) | (refine WL.pass ?_ ?_ ?_; rfl; rfl))
          refine WL.nil ?_
          repeat (first | refine AtExit.thenRet ?_ | refine AtExit.thenExit ?_ | refine AtExit.blockRet ?_ | refine AtExit.blockEnd ?_ | refine AtExit.blockExit ?_ | (refine AtExit.blockPast ?_ ?_; rfl))
          refine AtExit.go ?_
          refine WC.condT rfl ?_
          refine WC.skip ?_
          repeat (first | refine AtExit.thenRet ?_ | refine AtExit.thenExit ?_ | refine AtExit.blockRet ?_ | refine AtExit.blockEnd ?_ | refine AtExit.blockExit ?_ | (refine AtExit.blockPast ?_ ?_; rfl))
          refine AtExit.go ?_
          rcases hso with ⟨_, hea, heb, hno⟩ | ⟨h, _⟩
          rotate_left
          · cases h
          refine WC.cut (α := Bool × ByteArray × ByteArray) (fun x => [(27, .slice (some ⟨b3, 0, none⟩) mq mq), (28, .pointer (some ⟨p1 + 1, 0, none⟩)), (29, .string (⟨#[81]⟩ ++ dec (i0 + 1))), (30, .string (⟨#[81]⟩ ++ dec (j0 + 1))), (31, .bool ok0), (34, .bool x.1), (32, .string x.2.1), (33, .string x.2.2),
              (26, .slice (some ⟨b2, 0, none⟩) mq mq), (35, .int .i64 (i : Int))]) (fun x w' => Below w5.heap.size w5 w' ∧ Sofar pm (fun i => i + 1) mq mq ⟨#[81]⟩ ⟨#[81]⟩ (i + 1) x.1 x.2.1 x.2.2) ?_ ?_
          · refine WC.block ?_
            refine WC.seq (WC.region ?_)
            repeat (first | (refine WL.val ?_ ?_ (Runs.move rfl) ?_; rfl; rfl) | (refine WL.val ?_ ?_ (Runs.assign rfl) ?_; rfl; rfl) | (refine WL.val ?_ ?_ (Runs.extract rfl rfl) ?_; rfl; rfl) | (refine WL.val ?_ ?_ (Runs.nilCheck rfl) ?_; rfl; rfl) | (refine WL.val ?_ ?_ (Runs.pickT rfl rfl) ?_; rfl; rfl) | (refine WL.val ?_ ?_ (Runs.pickF rfl rfl) ?_; rfl; rfl) | (refine WL.val ?_ ?_ (Runs.len rfl sl22) ?_; rfl; rfl) | (refine WL.val ?_ ?_ (Runs.len rfl sl23) ?_; rfl; rfl) | (refine WL.val ?_ ?_ (Runs.len rfl sl24) ?_; rfl; rfl) | (refine WL.val ?_ ?_ (Runs.len rfl sl26) ?_; rfl; rfl) | (refine WL.val ?_ ?_ (Runs.len rfl sl27) ?_; rfl; rfl) | (refine WL.val ?_ ?_ (Runs.len rfl sl48) ?_; rfl; rfl) | (refine WL.val ?_ ?_ (Runs.len rfl sl60) ?_; rfl; rfl) | (refine WL.pass ?_ ?_ ?_; rfl; rfl))
            refine WL.val rfl rfl (Runs.add rfl rfl (wadd (r := ((i + 1 : Nat) : Int)) (by omega) (by omega) (by omega))) ?_
            repeat (first | (refine WL.val ?_ ?_ (Runs.move rfl) ?_; rfl; rfl) | (refine WL.val ?_ ?_ (Runs.assign rfl) ?_; rfl; rfl) | (refine WL.val ?_ ?_ (Runs.extract rfl rfl) ?_; rfl; rfl) | (refine WL.val ?_ ?_ (Runs.nilCheck rfl) ?_; rfl; rfl) | (refine WL.val ?_ ?_ (Runs.pickT rfl rfl) ?_; rfl; rfl) | (refine WL.val ?_ ?_ (Runs.pickF rfl rfl) ?_; rfl; rfl) | (refine WL.val ?_ ?_ (Runs.len rfl sl22) ?_; rfl; rfl) | (refine WL.val ?_ ?_ (Runs.len rfl sl23) ?_; rfl; rfl) | (refine WL.val ?_ ?_ (Runs.len rfl sl24) ?_; rfl; rfl) | (refine WL.val ?_ ?_ (Runs.len rfl sl26) ?_; rfl; rfl) | (refine WL.val ?_ ?_ (Runs.len rfl sl27) ?_; rfl; rfl) | (refine WL.val ?_ ?_ (Runs.len rfl sl48) ?_; rfl; rfl) | (refine WL.val ?_ ?_ (Runs.len rfl sl60) ?_; rfl; rfl) | (refine WL.pass ?_ ?_ ?_; rfl; rfl))
            refine WL.nil ?_
            repeat (first | refine AtExit.thenRet ?_ | refine AtExit.thenExit ?_ | refine AtExit.blockRet ?_ | refine AtExit.blockEnd ?_ | refine AtExit.blockExit ?_ | (refine AtExit.blockPast ?_ ?_; rfl))
            refine AtExit.go ?_
            refine WC.block ?_
            refine WC.loop (α := Nat) (fun j => [(27, .slice (some ⟨b3, 0, none⟩) mq mq), (28, .pointer (some ⟨p1 + 1, 0, none⟩)), (29, .string (⟨#[81]⟩ ++ dec (i0 + 1))), (30, .string (⟨#[81]⟩ ++ dec (j0 + 1))), (31, .bool ok0), (34, .bool false), (32, .string ea), (33, .string eb),
              (26, .slice (some ⟨b2, 0, none⟩) mq mq), (35, .int .i64 (i : Int)), (36, .int .i64 (j : Int))]) (fun j w' => Below w5.heap.size w5 w' ∧ j ≤ mq ∧ i + 1 ≤ j ∧ ∀ j', i + 1 ≤ j' → j' < j → pm i j' = false) (fun j => mq - j) (i + 1) (by repeat (first | exact Sub.nil _ | refine Sub.cons rfl ?_)) ⟨hB6, by omega, Nat.le_refl _, fun j' a b => absurd a (by omega)⟩ ?_
            clear hB6 w6
            rintro j w6 ⟨hB6, hj, hij, hnj⟩
            refine WC.seq ?_
            refine WC.seq (WC.region ?_)
            repeat (first | (refine WL.val ?_ ?_ (Runs.move rfl) ?_; rfl; rfl) | (refine WL.val ?_ ?_ (Runs.assign rfl) ?_; rfl; rfl) | (refine WL.val ?_ ?_ (Runs.extract rfl rfl) ?_; rfl; rfl) | (refine WL.val ?_ ?_ (Runs.nilCheck rfl) ?_; rfl; rfl) | (refine WL.val ?_ ?_ (Runs.pickT rfl rfl) ?_; rfl; rfl) | (refine WL.val ?_ ?_ (Runs.pickF rfl rfl) ?_; rfl; rfl) | (refine WL.val ?_ ?_ (Runs.len rfl sl22) ?_; rfl; rfl) | (refine WL.val ?_ ?_ (Runs.len rfl sl23) ?_; rfl; rfl) | (refine WL.val ?_ ?_ (Runs.len rfl sl24) ?_; rfl; rfl) | (refine WL.val ?_ ?_ (Runs.len rfl sl26) ?_; rfl; rfl) | (refine WL.val ?_ ?_ (Runs.len rfl sl27) ?_; rfl; rfl) | (refine WL.val ?_ ?_ (Runs.len rfl sl48) ?_; rfl; rfl) | (refine WL.val ?_ ?_ (Runs.len rfl sl60) ?_; rfl; rfl) | (refine WL.pass ?_ ?_ ?_; rfl; rfl))
            by_cases hjm : j < mq
            · refine WL.val rfl rfl (Runs.lss rfl rfl (declt hjm)) ?_
              refine WL.nil ?_
              repeat (first | refine AtExit.thenRet ?_ | refine AtExit.thenExit ?_ | refine AtExit.blockRet ?_ | refine AtExit.blockEnd ?_ | refine AtExit.blockExit ?_ | (refine AtExit.blockPast ?_ ?_; rfl))
              refine AtExit.go ?_
              refine WC.condT rfl ?_
              refine WC.skip ?_
              repeat (first | refine AtExit.thenRet ?_ | refine AtExit.thenExit ?_ | refine AtExit.blockRet ?_ | refine AtExit.blockEnd ?_ | refine AtExit.blockExit ?_ | (refine AtExit.blockPast ?_ ?_; rfl))
              refine AtExit.go ?_
              refine WC.seq (WC.block ?_)
              refine WC.seq (WC.quiet (fun w' => Below w5.heap.size w5 w') mixed (by kernel_rfl) (hB6.trans (below_drawn _ _)) ?_)
              repeat (first | (refine QL.val ?_ ?_ (fun wq hC => Runs.move rfl) ?_; rfl; rfl) | (refine QL.val ?_ ?_ (fun wq hC => Runs.assign rfl) ?_; rfl; rfl) | (refine QL.val ?_ ?_ (fun wq hC => Runs.extract rfl rfl) ?_; rfl; rfl) | (refine QL.val ?_ ?_ (fun wq hC => Runs.nilCheck rfl) ?_; rfl; rfl) | (refine QL.val ?_ ?_ (fun wq hC => Runs.pickT rfl rfl) ?_; rfl; rfl) | (refine QL.val ?_ ?_ (fun wq hC => Runs.pickF rfl rfl) ?_; rfl; rfl) | (refine QL.val ?_ ?_ (fun wq hC => Runs.len rfl sl22) ?_; rfl; rfl) | (refine QL.val ?_ ?_ (fun wq hC => Runs.len rfl sl23) ?_; rfl; rfl) | (refine QL.val ?_ ?_ (fun wq hC => Runs.len rfl sl24) ?_; rfl; rfl) | (refine QL.val ?_ ?_ (fun wq hC => Runs.len rfl sl26) ?_; rfl; rfl) | (refine QL.val ?_ ?_ (fun wq hC => Runs.len rfl sl27) ?_; rfl; rfl) | (refine QL.val ?_ ?_ (fun wq hC => Runs.len rfl sl48) ?_; rfl; rfl) | (refine QL.val ?_ ?_ (fun wq hC => Runs.len rfl sl60) ?_; rfl; rfl) | (refine QL.pass ?_ ?_ ?_; rfl; rfl))
              refine QL.val rfl rfl (fun wq hC => Runs.idx1 rfl rfl Ybad.underlying27 sz48 rfl him) ?_
              refine QL.val rfl rfl (fun wq hC => Runs.load rfl na48 ((q1.below hC hlt).cell0 him)) ?_
              repeat (first | (refine QL.val ?_ ?_ (fun wq hC => Runs.move rfl) ?_; rfl; rfl) | (refine QL.val ?_ ?_ (fun wq hC => Runs.assign rfl) ?_; rfl; rfl) | (refine QL.val ?_ ?_ (fun wq hC => Runs.extract rfl rfl) ?_; rfl; rfl) | (refine QL.val ?_ ?_ (fun wq hC => Runs.nilCheck rfl) ?_; rfl; rfl) | (refine QL.val ?_ ?_ (fun wq hC => Runs.pickT rfl rfl) ?_; rfl; rfl) | (refine QL.val ?_ ?_ (fun wq hC => Runs.pickF rfl rfl) ?_; rfl; rfl) | (refine QL.val ?_ ?_ (fun wq hC => Runs.len rfl sl22) ?_; rfl; rfl) | (refine QL.val ?_ ?_ (fun wq hC => Runs.len rfl sl23) ?_; rfl; rfl) | (refine QL.val ?_ ?_ (fun wq hC => Runs.len rfl sl24) ?_; rfl; rfl) | (refine QL.val ?_ ?_ (fun wq hC => Runs.len rfl sl26) ?_; rfl; rfl) | (refine QL.val ?_ ?_ (fun wq hC => Runs.len rfl sl27) ?_; rfl; rfl) | (refine QL.val ?_ ?_ (fun wq hC => Runs.len rfl sl48) ?_; rfl; rfl) | (refine QL.val ?_ ?_ (fun wq hC => Runs.len rfl sl60) ?_; rfl; rfl) | (refine QL.pass ?_ ?_ ?_; rfl; rfl))
              refine QL.val rfl rfl (fun wq hC => Runs.idx1 rfl rfl Ybad.underlying27 sz48 rfl hjm) ?_
              refine QL.val rfl rfl (fun wq hC => Runs.load rfl na48 ((q1.below hC hlt).cell0 hjm)) ?_
              refine QL.call rfl rfl (fun w' hC => RunsC.call rfl en8) (fun w' hC => (meet_any (blk i) (blk j) n _ _ w' (by omega) ((q2 i him).2.below hC (q2 i him).1) ((q2 j hjm).2.below hC (q2 j hjm).1)).mono fun e w2 ⟨he, hw⟩ => ⟨he, by rw [hw]; exact hC⟩) ?_
              refine QL.val rfl rfl (fun wq hC => Runs.not rfl) ?_
              refine QL.nil fun w7 hB7 => ?_
              repeat (first | refine AtExit.thenRet ?_ | refine AtExit.thenExit ?_ | refine AtExit.blockRet ?_ | refine AtExit.blockEnd ?_ | refine AtExit.blockExit ?_ | (refine AtExit.blockPast ?_ ?_; rfl))
              refine AtExit.go ?_
              rw [hpm' i j]
              cases hp : pm i j with
              | false =>
                refine WC.condF rfl ?_
                refine WC.skip ?_
                repeat (first | refine AtExit.thenRet ?_ | refine AtExit.thenExit ?_ | refine AtExit.blockRet ?_ | refine AtExit.blockEnd ?_ | refine AtExit.blockExit ?_ | (refine AtExit.blockPast ?_ ?_; rfl))
                refine AtExit.go ?_
                refine WC.region ?_
                repeat (first | (refine WL.val ?_ ?_ (Runs.move rfl) ?_; rfl; rfl) | (refine WL.val ?_ ?_ (Runs.assign rfl) ?_; rfl; rfl) | (refine WL.val ?_ ?_ (Runs.extract rfl rfl) ?_; rfl; rfl) | (refine WL.val ?_ ?_ (Runs.nilCheck rfl) ?_; rfl; rfl) | (refine WL.val ?_ ?_ (Runs.pickT rfl rfl) ?_; rfl; rfl) | (refine WL.val ?_ ?_ (Runs.pickF rfl rfl) ?_; rfl; rfl) | (refine WL.val ?_ ?_ (Runs.len rfl sl22) ?_; rfl; rfl) | (refine WL.val ?_ ?_ (Runs.len rfl sl23) ?_; rfl; rfl) | (refine WL.val ?_ ?_ (Runs.len rfl sl24) ?_; rfl; rfl) | (refine WL.val ?_ ?_ (Runs.len rfl sl26) ?_; rfl; rfl) | (refine WL.val ?_ ?_ (Runs.len rfl sl27) ?_; rfl; rfl) | (refine WL.val ?_ ?_ (Runs.len rfl sl48) ?_; rfl; rfl) | (refine WL.val ?_ ?_ (Runs.len rfl sl60) ?_; rfl; rfl) | (refine WL.pass ?_ ?_ ?_; rfl; rfl))
                refine WL.val rfl rfl (Runs.add rfl rfl (wadd (r := ((j + 1 : Nat) : Int)) (by omega) (by omega) (by omega))) ?_
                repeat (first | (refine WL.val ?_ ?_ (Runs.move rfl) ?_; rfl; rfl) | (refine WL.val ?_ ?_ (Runs.assign rfl) ?_; rfl; rfl) | (refine WL.val ?_ ?_ (Runs.extract rfl rfl) ?_; rfl; rfl) | (refine WL.val ?_ ?_ (Runs.nilCheck rfl) ?_; rfl; rfl) | (refine WL.val ?_ ?_ (Runs.pickT rfl rfl) ?_; rfl; rfl) | (refine WL.val ?_ ?_ (Runs.pickF rfl rfl) ?_; rfl; rfl) | (refine WL.val ?_ ?_ (Runs.len rfl sl22) ?_; rfl; rfl) | (refine WL.val ?_ ?_ (Runs.len rfl sl23) ?_; rfl; rfl) | (refine WL.val ?_ ?_ (Runs.len rfl sl24) ?_; rfl; rfl) | (refine WL.val ?_ ?_ (Runs.len rfl sl26) ?_; rfl; rfl) | (refine WL.val ?_ ?_ (Runs.len rfl sl27) ?_; rfl; rfl) | (refine WL.val ?_ ?_ (Runs.len rfl sl48) ?_; rfl; rfl) | (refine WL.val ?_ ?_ (Runs.len rfl sl60) ?_; rfl; rfl) | (refine WL.pass ?_ ?_ ?_; rfl; rfl))
                refine WL.nil ?_
                repeat (first | refine AtExit.thenRet ?_ | refine AtExit.thenExit ?_ | refine AtExit.blockRet ?_ | refine AtExit.blockEnd ?_ | refine AtExit.blockExit ?_ | (refine AtExit.blockPast ?_ ?_; rfl))
                refine AtExit.inv fun a ha => ⟨j + 1, ha.sub (by repeat (first | exact Sub.nil _ | refine Sub.cons rfl ?_)), ⟨hB7, by omega, by omega, fun j' a b => ?_⟩, by omega⟩
                by_cases h : j' < j
                · exact hnj j' a h
                · rw [show j' = j from by omega]; exact hp
              | true =>
                refine WC.condT rfl ?_
                have d1 := dec_size (i + 1)
                have d2 := dec_size (j + 1)
                refine WC.seq (WC.region ?_)
                repeat (first | (refine WL.val ?_ ?_ (Runs.move rfl) ?_; rfl; rfl) | (refine WL.val ?_ ?_ (Runs.assign rfl) ?_; rfl; rfl) | (refine WL.val ?_ ?_ (Runs.extract rfl rfl) ?_; rfl; rfl) | (refine WL.val ?_ ?_ (Runs.nilCheck rfl) ?_; rfl; rfl) | (refine WL.val ?_ ?_ (Runs.pickT rfl rfl) ?_; rfl; rfl) | (refine WL.val ?_ ?_ (Runs.pickF rfl rfl) ?_; rfl; rfl) | (refine WL.val ?_ ?_ (Runs.len rfl sl22) ?_; rfl; rfl) | (refine WL.val ?_ ?_ (Runs.len rfl sl23) ?_; rfl; rfl) | (refine WL.val ?_ ?_ (Runs.len rfl sl24) ?_; rfl; rfl) | (refine WL.val ?_ ?_ (Runs.len rfl sl26) ?_; rfl; rfl) | (refine WL.val ?_ ?_ (Runs.len rfl sl27) ?_; rfl; rfl) | (refine WL.val ?_ ?_ (Runs.len rfl sl48) ?_; rfl; rfl) | (refine WL.val ?_ ?_ (Runs.len rfl sl60) ?_; rfl; rfl) | (refine WL.pass ?_ ?_ ?_; rfl; rfl))
                refine WL.val rfl rfl (Runs.add rfl rfl (wadd (r := ((i + 1 : Nat) : Int)) (by omega) (by omega) (by omega))) ?_
                refine WL.call rfl rfl (RunsC.call rfl en4) (itoa_any (i + 1) w7 (by omega) (by omega)) ?_
                rintro e w8 ⟨rfl, hB8⟩
                refine ⟨_, rfl, ?_⟩
                refine WL.val rfl rfl (Runs.addS (b := dec (i + 1)) rfl rfl (by show 1 + _ ≤ _; omega)) ?_
                repeat (first | (refine WL.val ?_ ?_ (Runs.move rfl) ?_; rfl; rfl) | (refine WL.val ?_ ?_ (Runs.assign rfl) ?_; rfl; rfl) | (refine WL.val ?_ ?_ (Runs.extract rfl rfl) ?_; rfl; rfl) | (refine WL.val ?_ ?_ (Runs.nilCheck rfl) ?_; rfl; rfl) | (refine WL.val ?_ ?_ (Runs.pickT rfl rfl) ?_; rfl; rfl) | (refine WL.val ?_ ?_ (Runs.pickF rfl rfl) ?_; rfl; rfl) | (refine WL.val ?_ ?_ (Runs.len rfl sl22) ?_; rfl; rfl) | (refine WL.val ?_ ?_ (Runs.len rfl sl23) ?_; rfl; rfl) | (refine WL.val ?_ ?_ (Runs.len rfl sl24) ?_; rfl; rfl) | (refine WL.val ?_ ?_ (Runs.len rfl sl26) ?_; rfl; rfl) | (refine WL.val ?_ ?_ (Runs.len rfl sl27) ?_; rfl; rfl) | (refine WL.val ?_ ?_ (Runs.len rfl sl48) ?_; rfl; rfl) | (refine WL.val ?_ ?_ (Runs.len rfl sl60) ?_; rfl; rfl) | (refine WL.pass ?_ ?_ ?_; rfl; rfl))
                refine WL.val rfl rfl (Runs.add rfl rfl (wadd (r := ((j + 1 : Nat) : Int)) (by omega) (by omega) (by omega))) ?_
                refine WL.call rfl rfl (RunsC.call rfl en4) (itoa_any (j + 1) w8 (by omega) (by omega)) ?_
                rintro e w9 ⟨rfl, hB9⟩
                refine ⟨_, rfl, ?_⟩
                refine WL.val rfl rfl (Runs.addS (b := dec (j + 1)) rfl rfl (by show 1 + _ ≤ _; omega)) ?_
                repeat (first | (refine WL.val ?_ ?_ (Runs.move rfl) ?_; rfl; rfl) | (refine WL.val ?_ ?_ (Runs.assign rfl) ?_; rfl; rfl) | (refine WL.val ?_ ?_ (Runs.extract rfl rfl) ?_; rfl; rfl) | (refine WL.val ?_ ?_ (Runs.nilCheck rfl) ?_; rfl; rfl) | (refine WL.val ?_ ?_ (Runs.pickT rfl rfl) ?_; rfl; rfl) | (refine WL.val ?_ ?_ (Runs.pickF rfl rfl) ?_; rfl; rfl) | (refine WL.val ?_ ?_ (Runs.len rfl sl22) ?_; rfl; rfl) | (refine WL.val ?_ ?_ (Runs.len rfl sl23) ?_; rfl; rfl) | (refine WL.val ?_ ?_ (Runs.len rfl sl24) ?_; rfl; rfl) | (refine WL.val ?_ ?_ (Runs.len rfl sl26) ?_; rfl; rfl) | (refine WL.val ?_ ?_ (Runs.len rfl sl27) ?_; rfl; rfl) | (refine WL.val ?_ ?_ (Runs.len rfl sl48) ?_; rfl; rfl) | (refine WL.val ?_ ?_ (Runs.len rfl sl60) ?_; rfl; rfl) | (refine WL.pass ?_ ?_ ?_; rfl; rfl))
                refine WL.nil ?_
                repeat (first | refine AtExit.thenRet ?_ | refine AtExit.thenExit ?_ | refine AtExit.blockRet ?_ | refine AtExit.blockEnd ?_ | refine AtExit.blockExit ?_ | (refine AtExit.blockPast ?_ ?_; rfl))
                refine AtExit.go ?_
                refine WC.exit ?_
                repeat (first | refine AtExit.thenRet ?_ | refine AtExit.thenExit ?_ | refine AtExit.blockRet ?_ | refine AtExit.blockEnd ?_ | refine AtExit.blockExit ?_ | (refine AtExit.blockPast ?_ ?_; rfl))
                refine AtExit.inv fun a ha => ⟨(true, _, _), ha.sub (by repeat (first | exact Sub.nil _ | refine Sub.cons rfl ?_)), Below.up (Below.up hB7 hB8) hB9, Or.inr ⟨rfl, i, j, rfl, rfl, Or.inl ⟨rfl, him, hij, hjm, hp, hno, hnj⟩⟩⟩
            · refine WL.val rfl rfl (Runs.lss rfl rfl (decge hjm)) ?_
              refine WL.nil ?_
              repeat (first | refine AtExit.thenRet ?_ | refine AtExit.thenExit ?_ | refine AtExit.blockRet ?_ | refine AtExit.blockEnd ?_ | refine AtExit.blockExit ?_ | (refine AtExit.blockPast ?_ ?_; rfl))
              refine AtExit.go ?_
              refine WC.condF rfl ?_
              refine WC.exit ?_
              repeat (first | refine AtExit.thenRet ?_ | refine AtExit.thenExit ?_ | refine AtExit.blockRet ?_ | refine AtExit.blockEnd ?_ | refine AtExit.blockExit ?_ | (refine AtExit.blockPast ?_ ?_; rfl))
              refine AtExit.inv fun a ha => ⟨(false, ea, eb), ha.sub (by repeat (first | exact Sub.nil _ | refine Sub.cons rfl ?_)), hB6, Or.inl ⟨rfl, hea, heb, fun i' j' a b c => ?_⟩⟩
              by_cases h : i' < i
              · exact hno i' j' h b c
              · obtain rfl : i' = i := by omega
                exact hnj j' b (by omega)
          · rintro ⟨eok, ea, eb⟩ w7 ⟨hB7, hso⟩
            refine WC.region ?_
            repeat (first | (refine WL.val ?_ ?_ (Runs.move rfl) ?_; rfl; rfl) | (refine WL.val ?_ ?_ (Runs.assign rfl) ?_; rfl; rfl) | (refine WL.val ?_ ?_ (Runs.extract rfl rfl) ?_; rfl; rfl) | (refine WL.val ?_ ?_ (Runs.nilCheck rfl) ?_; rfl; rfl) | (refine WL.val ?_ ?_ (Runs.pickT rfl rfl) ?_; rfl; rfl) | (refine WL.val ?_ ?_ (Runs.pickF rfl rfl) ?_; rfl; rfl) | (refine WL.val ?_ ?_ (Runs.len rfl sl22) ?_; rfl; rfl) | (refine WL.val ?_ ?_ (Runs.len rfl sl23) ?_; rfl; rfl) | (refine WL.val ?_ ?_ (Runs.len rfl sl24) ?_; rfl; rfl) | (refine WL.val ?_ ?_ (Runs.len rfl sl26) ?_; rfl; rfl) | (refine WL.val ?_ ?_ (Runs.len rfl sl27) ?_; rfl; rfl) | (refine WL.val ?_ ?_ (Runs.len rfl sl48) ?_; rfl; rfl) | (refine WL.val ?_ ?_ (Runs.len rfl sl60) ?_; rfl; rfl) | (refine WL.pass ?_ ?_ ?_; rfl; rfl))
            refine WL.val rfl rfl (Runs.add rfl rfl (wadd (r := ((i + 1 : Nat) : Int)) (by omega) (by omega) (by omega))) ?_
            repeat (first | (refine WL.val ?_ ?_ (Runs.move rfl) ?_; rfl; rfl) | (refine WL.val ?_ ?_ (Runs.assign rfl) ?_; rfl; rfl) | (refine WL.val ?_ ?_ (Runs.extract rfl rfl) ?_; rfl; rfl) | (refine WL.val ?_ ?_ (Runs.nilCheck rfl) ?_; rfl; rfl) | (refine WL.val ?_ ?_ (Runs.pickT rfl rfl) ?_; rfl; rfl) | (refine WL.val ?_ ?_ (Runs.pickF rfl rfl) ?_; rfl; rfl) | (refine WL.val ?_ ?_ (Runs.len rfl sl22) ?_; rfl; rfl) | (refine WL.val ?_ ?_ (Runs.len rfl sl23) ?_; rfl; rfl) | (refine WL.val ?_ ?_ (Runs.len rfl sl24) ?_; rfl; rfl) | (refine WL.val ?_ ?_ (Runs.len rfl sl26) ?_; rfl; rfl) | (refine WL.val ?_ ?_ (Runs.len rfl sl27) ?_; rfl; rfl) | (refine WL.val ?_ ?_ (Runs.len rfl sl48) ?_; rfl; rfl) | (refine WL.val ?_ ?_ (Runs.len rfl sl60) ?_; rfl; rfl) | (refine WL.pass ?_ ?_ ?_; rfl; rfl))
            refine WL.nil ?_
            repeat (first | refine AtExit.thenRet ?_ | refine AtExit.thenExit ?_ | refine AtExit.blockRet ?_ | refine AtExit.blockEnd ?_ | refine AtExit.blockExit ?_ | (refine AtExit.blockPast ?_ ?_; rfl))
            refine AtExit.inv fun a ha => ⟨(i + 1, eok, ea, eb), ha.sub (by repeat (first | exact Sub.nil _ | refine Sub.cons rfl ?_)), ⟨hB7, by omega, hso⟩, by show mq - (i + 1) < mq - i; omega⟩
      · refine WL.val rfl rfl (Runs.lss rfl rfl (decge him)) ?_
        repeat (first | (refine WL.val ?_ ?_ (Runs.move rfl) ?_; rfl; rfl) | (refine WL.val ?_ ?_ (Runs.assign rfl) ?_; rfl; rfl) | (refine WL.val ?_ ?_ (Runs.extract rfl rfl) ?_; rfl; rfl) | (refine WL.val ?_ ?_ (Runs.nilCheck rfl) ?_; rfl; rfl) | (refine WL.val ?_ ?_ (Runs.pickT rfl rfl) ?_; rfl; rfl) | (refine WL.val ?_ ?_ (Runs.pickF rfl rfl) ?_; rfl; rfl) | (refine WL.val ?_ ?_ (Runs.len rfl sl22) ?_; rfl; rfl) | (refine WL.val ?_ ?_ (Runs.len rfl sl23) ?_; rfl; rfl) | (refine WL.val ?_ ?_ (Runs.len rfl sl24) ?_; rfl; rfl) | (refine WL.val ?_ ?_ (Runs.len rfl sl26) ?_; rfl; rfl) | (refine WL.val ?_ ?_ (Runs.len rfl sl27) ?_; rfl; rfl) | (refine WL.val ?_ ?_ (Runs.len rfl sl48) ?_; rfl; rfl) | (refine WL.val ?_ ?_ (Runs.len rfl sl60) ?_; rfl; rfl) | (refine WL.pass ?_ ?_ ?_; rfl; rfl))
        refine WL.nil ?_
        repeat (first | refine AtExit.thenRet ?_ | refine AtExit.thenExit ?_ | refine AtExit.blockRet ?_ | refine AtExit.blockEnd ?_ | refine AtExit.blockExit ?_ | (refine AtExit.blockPast ?_ ?_; rfl))
        refine AtExit.go ?_
        refine WC.condF rfl ?_
        obtain ⟨e1, e2, e3⟩ := hso.fin (fun _ => by omega) hF1
        refine WC.exit ?_
        repeat (first | refine AtExit.thenRet ?_ | refine AtExit.thenExit ?_ | refine AtExit.blockRet ?_ | refine AtExit.blockEnd ?_ | refine AtExit.blockExit ?_ | (refine AtExit.blockPast ?_ ?_; rfl))
        refine AtExit.inv fun a ha => ⟨(eok, ea, eb), ha.sub (by repeat (first | exact Sub.nil _ | refine Sub.cons rfl ?_)), hB6, e1, e2, e3⟩
    · rintro ⟨eok, ea, eb⟩ w6 ⟨hB6, e1, e2, e3⟩
      dsimp only at e1 e2 e3
      subst e1 e2 e3
      have f1 := below_heap hB6 (lt_of_heap c1') c1'
      have f2 := below_heap hB6 (lt_of_heap c2') c2'
      refine WC.seq (WC.region ?_)
      repeat (first | (refine WL.val ?_ ?_ (Runs.move rfl) ?_; rfl; rfl) | (refine WL.val ?_ ?_ (Runs.assign rfl) ?_; rfl; rfl) | (refine WL.val ?_ ?_ (Runs.extract rfl rfl) ?_; rfl; rfl) | (refine WL.val ?_ ?_ (Runs.nilCheck rfl) ?_; rfl; rfl) | (refine WL.val ?_ ?_ (Runs.pickT rfl rfl) ?_; rfl; rfl) | (refine WL.val ?_ ?_ (Runs.pickF rfl rfl) ?_; rfl; rfl) | (refine WL.val ?_ ?_ (Runs.len rfl sl22) ?_; rfl; rfl) | (refine WL.val ?_ ?_ (Runs.len rfl sl23) ?_; rfl; rfl) | (refine WL.val ?_ ?_ (Runs.len rfl sl24) ?_; rfl; rfl) | (refine WL.val ?_ ?_ (Runs.len rfl sl26) ?_; rfl; rfl) | (refine WL.val ?_ ?_ (Runs.len rfl sl27) ?_; rfl; rfl) | (refine WL.val ?_ ?_ (Runs.len rfl sl48) ?_; rfl; rfl) | (refine WL.val ?_ ?_ (Runs.len rfl sl60) ?_; rfl; rfl) | (refine WL.pass ?_ ?_ ?_; rfl; rfl))
      refine WL.val rfl rfl (Runs.eqlS rfl rfl (r := true) (by simp)) ?_
      repeat (first | (refine WL.val ?_ ?_ (Runs.move rfl) ?_; rfl; rfl) | (refine WL.val ?_ ?_ (Runs.assign rfl) ?_; rfl; rfl) | (refine WL.val ?_ ?_ (Runs.extract rfl rfl) ?_; rfl; rfl) | (refine WL.val ?_ ?_ (Runs.nilCheck rfl) ?_; rfl; rfl) | (refine WL.val ?_ ?_ (Runs.pickT rfl rfl) ?_; rfl; rfl) | (refine WL.val ?_ ?_ (Runs.pickF rfl rfl) ?_; rfl; rfl) | (refine WL.val ?_ ?_ (Runs.len rfl sl22) ?_; rfl; rfl) | (refine WL.val ?_ ?_ (Runs.len rfl sl23) ?_; rfl; rfl) | (refine WL.val ?_ ?_ (Runs.len rfl sl24) ?_; rfl; rfl) | (refine WL.val ?_ ?_ (Runs.len rfl sl26) ?_; rfl; rfl) | (refine WL.val ?_ ?_ (Runs.len rfl sl27) ?_; rfl; rfl) | (refine WL.val ?_ ?_ (Runs.len rfl sl48) ?_; rfl; rfl) | (refine WL.val ?_ ?_ (Runs.len rfl sl60) ?_; rfl; rfl) | (refine WL.pass ?_ ?_ ?_; rfl; rfl))
      refine WL.val rfl rfl (Runs.eqlS rfl rfl (r := true) (by simp)) ?_
      repeat (first | (refine WL.val ?_ ?_ (Runs.move rfl) ?_; rfl; rfl) | (refine WL.val ?_ ?_ (Runs.assign rfl) ?_; rfl; rfl) | (refine WL.val ?_ ?_ (Runs.extract rfl rfl) ?_; rfl; rfl) | (refine WL.val ?_ ?_ (Runs.nilCheck rfl) ?_; rfl; rfl) | (refine WL.val ?_ ?_ (Runs.pickT rfl rfl) ?_; rfl; rfl) | (refine WL.val ?_ ?_ (Runs.pickF rfl rfl) ?_; rfl; rfl) | (refine WL.val ?_ ?_ (Runs.len rfl sl22) ?_; rfl; rfl) | (refine WL.val ?_ ?_ (Runs.len rfl sl23) ?_; rfl; rfl) | (refine WL.val ?_ ?_ (Runs.len rfl sl24) ?_; rfl; rfl) | (refine WL.val ?_ ?_ (Runs.len rfl sl26) ?_; rfl; rfl) | (refine WL.val ?_ ?_ (Runs.len rfl sl27) ?_; rfl; rfl) | (refine WL.val ?_ ?_ (Runs.len rfl sl48) ?_; rfl; rfl) | (refine WL.val ?_ ?_ (Runs.len rfl sl60) ?_; rfl; rfl) | (refine WL.pass ?_ ?_ ?_; rfl; rfl))
      refine WL.val rfl rfl (Runs.eqlB rfl rfl Ybad.underlying4 (r := true) (by simp)) ?_
      repeat (first | (refine WL.val ?_ ?_ (Runs.move rfl) ?_; rfl; rfl) | (refine WL.val ?_ ?_ (Runs.assign rfl) ?_; rfl; rfl) | (refine WL.val ?_ ?_ (Runs.extract rfl rfl) ?_; rfl; rfl) | (refine WL.val ?_ ?_ (Runs.nilCheck rfl) ?_; rfl; rfl) | (refine WL.val ?_ ?_ (Runs.pickT rfl rfl) ?_; rfl; rfl) | (refine WL.val ?_ ?_ (Runs.pickF rfl rfl) ?_; rfl; rfl) | (refine WL.val ?_ ?_ (Runs.len rfl sl22) ?_; rfl; rfl) | (refine WL.val ?_ ?_ (Runs.len rfl sl23) ?_; rfl; rfl) | (refine WL.val ?_ ?_ (Runs.len rfl sl24) ?_; rfl; rfl) | (refine WL.val ?_ ?_ (Runs.len rfl sl26) ?_; rfl; rfl) | (refine WL.val ?_ ?_ (Runs.len rfl sl27) ?_; rfl; rfl) | (refine WL.val ?_ ?_ (Runs.len rfl sl48) ?_; rfl; rfl) | (refine WL.val ?_ ?_ (Runs.len rfl sl60) ?_; rfl; rfl) | (refine WL.pass ?_ ?_ ?_; rfl; rfl))
      refine WL.val rfl rfl (Runs.fld rfl fl44_3) ?_
      refine WL.val rfl rfl (Runs.load rfl na32 (by rw [cell_of f2]; rfl)) ?_
      repeat (first | (refine WL.val ?_ ?_ (Runs.move rfl) ?_; rfl; rfl) | (refine WL.val ?_ ?_ (Runs.assign rfl) ?_; rfl; rfl) | (refine WL.val ?_ ?_ (Runs.extract rfl rfl) ?_; rfl; rfl) | (refine WL.val ?_ ?_ (Runs.nilCheck rfl) ?_; rfl; rfl) | (refine WL.val ?_ ?_ (Runs.pickT rfl rfl) ?_; rfl; rfl) | (refine WL.val ?_ ?_ (Runs.pickF rfl rfl) ?_; rfl; rfl) | (refine WL.val ?_ ?_ (Runs.len rfl sl22) ?_; rfl; rfl) | (refine WL.val ?_ ?_ (Runs.len rfl sl23) ?_; rfl; rfl) | (refine WL.val ?_ ?_ (Runs.len rfl sl24) ?_; rfl; rfl) | (refine WL.val ?_ ?_ (Runs.len rfl sl26) ?_; rfl; rfl) | (refine WL.val ?_ ?_ (Runs.len rfl sl27) ?_; rfl; rfl) | (refine WL.val ?_ ?_ (Runs.len rfl sl48) ?_; rfl; rfl) | (refine WL.val ?_ ?_ (Runs.len rfl sl60) ?_; rfl; rfl) | (refine WL.pass ?_ ?_ ?_; rfl; rfl))
      refine WL.val rfl rfl (Runs.fld rfl fl34_1) ?_
      refine WL.val rfl rfl (Runs.load rfl na26 (by rw [cell_of f1]; rfl)) ?_
      repeat (first | (refine WL.val ?_ ?_ (Runs.move rfl) ?_; rfl; rfl) | (refine WL.val ?_ ?_ (Runs.assign rfl) ?_; rfl; rfl) | (refine WL.val ?_ ?_ (Runs.extract rfl rfl) ?_; rfl; rfl) | (refine WL.val ?_ ?_ (Runs.nilCheck rfl) ?_; rfl; rfl) | (refine WL.val ?_ ?_ (Runs.pickT rfl rfl) ?_; rfl; rfl) | (refine WL.val ?_ ?_ (Runs.pickF rfl rfl) ?_; rfl; rfl) | (refine WL.val ?_ ?_ (Runs.len rfl sl22) ?_; rfl; rfl) | (refine WL.val ?_ ?_ (Runs.len rfl sl23) ?_; rfl; rfl) | (refine WL.val ?_ ?_ (Runs.len rfl sl24) ?_; rfl; rfl) | (refine WL.val ?_ ?_ (Runs.len rfl sl26) ?_; rfl; rfl) | (refine WL.val ?_ ?_ (Runs.len rfl sl27) ?_; rfl; rfl) | (refine WL.val ?_ ?_ (Runs.len rfl sl48) ?_; rfl; rfl) | (refine WL.val ?_ ?_ (Runs.len rfl sl60) ?_; rfl; rfl) | (refine WL.pass ?_ ?_ ?_; rfl; rfl))
      refine WL.call rfl rfl (RunsC.call rfl en9) (same_any b1 b3 mq ((n + 63) / 64) _ w6 (by omega) hW3 (hs5.up hB6) (hk5.up hB6)) ?_
      rintro e w7 ⟨rfl, hB7⟩
      refine ⟨_, rfl, ?_⟩
      have g2 := below_heap hB7 (lt_of_heap f2) f2
      repeat (first | (refine WL.val ?_ ?_ (Runs.move rfl) ?_; rfl; rfl) | (refine WL.val ?_ ?_ (Runs.assign rfl) ?_; rfl; rfl) | (refine WL.val ?_ ?_ (Runs.extract rfl rfl) ?_; rfl; rfl) | (refine WL.val ?_ ?_ (Runs.nilCheck rfl) ?_; rfl; rfl) | (refine WL.val ?_ ?_ (Runs.pickT rfl rfl) ?_; rfl; rfl) | (refine WL.val ?_ ?_ (Runs.pickF rfl rfl) ?_; rfl; rfl) | (refine WL.val ?_ ?_ (Runs.len rfl sl22) ?_; rfl; rfl) | (refine WL.val ?_ ?_ (Runs.len rfl sl23) ?_; rfl; rfl) | (refine WL.val ?_ ?_ (Runs.len rfl sl24) ?_; rfl; rfl) | (refine WL.val ?_ ?_ (Runs.len rfl sl26) ?_; rfl; rfl) | (refine WL.val ?_ ?_ (Runs.len rfl sl27) ?_; rfl; rfl) | (refine WL.val ?_ ?_ (Runs.len rfl sl48) ?_; rfl; rfl) | (refine WL.val ?_ ?_ (Runs.len rfl sl60) ?_; rfl; rfl) | (refine WL.pass ?_ ?_ ?_; rfl; rfl))
      refine WL.val rfl rfl (Runs.fld rfl fl44_5) ?_
      refine WL.val rfl rfl (Runs.load rfl na42 (by rw [cell_of g2]; rfl)) ?_
      refine WL.val rfl rfl (Runs.eqlPN rfl pt42 (r := true) rfl) ?_
      repeat (first | (refine WL.val ?_ ?_ (Runs.move rfl) ?_; rfl; rfl) | (refine WL.val ?_ ?_ (Runs.assign rfl) ?_; rfl; rfl) | (refine WL.val ?_ ?_ (Runs.extract rfl rfl) ?_; rfl; rfl) | (refine WL.val ?_ ?_ (Runs.nilCheck rfl) ?_; rfl; rfl) | (refine WL.val ?_ ?_ (Runs.pickT rfl rfl) ?_; rfl; rfl) | (refine WL.val ?_ ?_ (Runs.pickF rfl rfl) ?_; rfl; rfl) | (refine WL.val ?_ ?_ (Runs.len rfl sl22) ?_; rfl; rfl) | (refine WL.val ?_ ?_ (Runs.len rfl sl23) ?_; rfl; rfl) | (refine WL.val ?_ ?_ (Runs.len rfl sl24) ?_; rfl; rfl) | (refine WL.val ?_ ?_ (Runs.len rfl sl26) ?_; rfl; rfl) | (refine WL.val ?_ ?_ (Runs.len rfl sl27) ?_; rfl; rfl) | (refine WL.val ?_ ?_ (Runs.len rfl sl48) ?_; rfl; rfl) | (refine WL.val ?_ ?_ (Runs.len rfl sl60) ?_; rfl; rfl) | (refine WL.pass ?_ ?_ ?_; rfl; rfl))
      refine WL.val rfl rfl (Runs.fld rfl fl44_2) ?_
      refine WL.val rfl rfl (Runs.load rfl na37 (by rw [cell_of g2]; rfl)) ?_
      refine WL.val rfl rfl (Runs.eqlNN rfl if37) ?_
      repeat (first | (refine WL.val ?_ ?_ (Runs.move rfl) ?_; rfl; rfl) | (refine WL.val ?_ ?_ (Runs.assign rfl) ?_; rfl; rfl) | (refine WL.val ?_ ?_ (Runs.extract rfl rfl) ?_; rfl; rfl) | (refine WL.val ?_ ?_ (Runs.nilCheck rfl) ?_; rfl; rfl) | (refine WL.val ?_ ?_ (Runs.pickT rfl rfl) ?_; rfl; rfl) | (refine WL.val ?_ ?_ (Runs.pickF rfl rfl) ?_; rfl; rfl) | (refine WL.val ?_ ?_ (Runs.len rfl sl22) ?_; rfl; rfl) | (refine WL.val ?_ ?_ (Runs.len rfl sl23) ?_; rfl; rfl) | (refine WL.val ?_ ?_ (Runs.len rfl sl24) ?_; rfl; rfl) | (refine WL.val ?_ ?_ (Runs.len rfl sl26) ?_; rfl; rfl) | (refine WL.val ?_ ?_ (Runs.len rfl sl27) ?_; rfl; rfl) | (refine WL.val ?_ ?_ (Runs.len rfl sl48) ?_; rfl; rfl) | (refine WL.val ?_ ?_ (Runs.len rfl sl60) ?_; rfl; rfl) | (refine WL.pass ?_ ?_ ?_; rfl; rfl))
      refine WL.nil ?_
      repeat (first | refine AtExit.thenRet ?_ | refine AtExit.thenExit ?_ | refine AtExit.blockRet ?_ | refine AtExit.blockEnd ?_ | refine AtExit.blockExit ?_ | (refine AtExit.blockPast ?_ ?_; rfl))
      refine AtExit.go ?_
      refine WC.ret ?_
      repeat (first | refine AtExit.thenRet ?_ | refine AtExit.thenExit ?_ | refine AtExit.blockRet ?_ | refine AtExit.blockEnd ?_ | refine AtExit.blockExit ?_ | (refine AtExit.blockPast ?_ ?_; rfl))
      exact post1 rfl rfl ⟨rfl, by rw [hnb]; exact Below.up (Below.up hB15 hB6) hB7⟩
  refine WL.val rfl rfl (Runs.eql rfl rfl (r := false) (by rw [decide_eq_false_iff_not]; omega)) ?_
  repeat (first | (refine WL.val ?_ ?_ (Runs.move rfl) ?_; rfl; rfl) | (refine WL.val ?_ ?_ (Runs.assign rfl) ?_; rfl; rfl) | (refine WL.val ?_ ?_ (Runs.extract rfl rfl) ?_; rfl; rfl) | (refine WL.val ?_ ?_ (Runs.nilCheck rfl) ?_; rfl; rfl) | (refine WL.val ?_ ?_ (Runs.pickT rfl rfl) ?_; rfl; rfl) | (refine WL.val ?_ ?_ (Runs.pickF rfl rfl) ?_; rfl; rfl) | (refine WL.val ?_ ?_ (Runs.len rfl sl22) ?_; rfl; rfl) | (refine WL.val ?_ ?_ (Runs.len rfl sl23) ?_; rfl; rfl) | (refine WL.val ?_ ?_ (Runs.len rfl sl24) ?_; rfl; rfl) | (refine WL.val ?_ ?_ (Runs.len rfl sl26) ?_; rfl; rfl) | (refine WL.val ?_ ?_ (Runs.len rfl sl27) ?_; rfl; rfl) | (refine WL.val ?_ ?_ (Runs.len rfl sl48) ?_; rfl; rfl) | (refine WL.val ?_ ?_ (Runs.len rfl sl60) ?_; rfl; rfl) | (refine WL.pass ?_ ?_ ?_; rfl; rfl))
  refine WL.nil ?_
  repeat (first | refine AtExit.thenRet ?_ | refine AtExit.thenExit ?_ | refine AtExit.blockRet ?_ | refine AtExit.blockEnd ?_ | refine AtExit.blockExit ?_ | (refine AtExit.blockPast ?_ ?_; rfl))
  refine AtExit.go ?_
  refine WC.condF rfl ?_
  refine WC.seq (WC.region ?_)
  by_cases hm1 : mo % 3 = 1
  · refine WL.val rfl rfl (Runs.eql rfl rfl (r := true) (by rw [hm1]; rfl)) ?_
    repeat (first | (refine WL.val ?_ ?_ (Runs.move rfl) ?_; rfl; rfl) | (refine WL.val ?_ ?_ (Runs.assign rfl) ?_; rfl; rfl) | (refine WL.val ?_ ?_ (Runs.extract rfl rfl) ?_; rfl; rfl) | (refine WL.val ?_ ?_ (Runs.nilCheck rfl) ?_; rfl; rfl) | (refine WL.val ?_ ?_ (Runs.pickT rfl rfl) ?_; rfl; rfl) | (refine WL.val ?_ ?_ (Runs.pickF rfl rfl) ?_; rfl; rfl) | (refine WL.val ?_ ?_ (Runs.len rfl sl22) ?_; rfl; rfl) | (refine WL.val ?_ ?_ (Runs.len rfl sl23) ?_; rfl; rfl) | (refine WL.val ?_ ?_ (Runs.len rfl sl24) ?_; rfl; rfl) | (refine WL.val ?_ ?_ (Runs.len rfl sl26) ?_; rfl; rfl) | (refine WL.val ?_ ?_ (Runs.len rfl sl27) ?_; rfl; rfl) | (refine WL.val ?_ ?_ (Runs.len rfl sl48) ?_; rfl; rfl) | (refine WL.val ?_ ?_ (Runs.len rfl sl60) ?_; rfl; rfl) | (refine WL.pass ?_ ?_ ?_; rfl; rfl))
    refine WL.nil ?_
    repeat (first | refine AtExit.thenRet ?_ | refine AtExit.thenExit ?_ | refine AtExit.blockRet ?_ | refine AtExit.blockEnd ?_ | refine AtExit.blockExit ?_ | (refine AtExit.blockPast ?_ ?_; rfl))
    refine AtExit.go ?_
    refine WC.condT rfl ?_
    refine WC.seq (WC.region ?_)
    repeat (first | (refine WL.val ?_ ?_ (Runs.move rfl) ?_; rfl; rfl) | (refine WL.val ?_ ?_ (Runs.assign rfl) ?_; rfl; rfl) | (refine WL.val ?_ ?_ (Runs.extract rfl rfl) ?_; rfl; rfl) | (refine WL.val ?_ ?_ (Runs.nilCheck rfl) ?_; rfl; rfl) | (refine WL.val ?_ ?_ (Runs.pickT rfl rfl) ?_; rfl; rfl) | (refine WL.val ?_ ?_ (Runs.pickF rfl rfl) ?_; rfl; rfl) | (refine WL.val ?_ ?_ (Runs.len rfl sl22) ?_; rfl; rfl) | (refine WL.val ?_ ?_ (Runs.len rfl sl23) ?_; rfl; rfl) | (refine WL.val ?_ ?_ (Runs.len rfl sl24) ?_; rfl; rfl) | (refine WL.val ?_ ?_ (Runs.len rfl sl26) ?_; rfl; rfl) | (refine WL.val ?_ ?_ (Runs.len rfl sl27) ?_; rfl; rfl) | (refine WL.val ?_ ?_ (Runs.len rfl sl48) ?_; rfl; rfl) | (refine WL.val ?_ ?_ (Runs.len rfl sl60) ?_; rfl; rfl) | (refine WL.pass ?_ ?_ ?_; rfl; rfl))
    refine WL.call rfl rfl (RunsC.call rfl en5) (build_any n Aq mq Cq Rq w1 hn0 hn1 (by omega) bq hq') ?_
    rintro e w2 ⟨b1, b2, rfl, hs2, hm2, hB2⟩
    refine ⟨_, rfl, ?_⟩
    repeat (first | (refine WL.val ?_ ?_ (Runs.move rfl) ?_; rfl; rfl) | (refine WL.val ?_ ?_ (Runs.assign rfl) ?_; rfl; rfl) | (refine WL.val ?_ ?_ (Runs.extract rfl rfl) ?_; rfl; rfl) | (refine WL.val ?_ ?_ (Runs.nilCheck rfl) ?_; rfl; rfl) | (refine WL.val ?_ ?_ (Runs.pickT rfl rfl) ?_; rfl; rfl) | (refine WL.val ?_ ?_ (Runs.pickF rfl rfl) ?_; rfl; rfl) | (refine WL.val ?_ ?_ (Runs.len rfl sl22) ?_; rfl; rfl) | (refine WL.val ?_ ?_ (Runs.len rfl sl23) ?_; rfl; rfl) | (refine WL.val ?_ ?_ (Runs.len rfl sl24) ?_; rfl; rfl) | (refine WL.val ?_ ?_ (Runs.len rfl sl26) ?_; rfl; rfl) | (refine WL.val ?_ ?_ (Runs.len rfl sl27) ?_; rfl; rfl) | (refine WL.val ?_ ?_ (Runs.len rfl sl48) ?_; rfl; rfl) | (refine WL.val ?_ ?_ (Runs.len rfl sl60) ?_; rfl; rfl) | (refine WL.pass ?_ ?_ ?_; rfl; rfl))
    refine WL.nil ?_
    repeat (first | refine AtExit.thenRet ?_ | refine AtExit.thenExit ?_ | refine AtExit.blockRet ?_ | refine AtExit.blockEnd ?_ | refine AtExit.blockExit ?_ | (refine AtExit.blockPast ?_ ?_; rfl))
    refine AtExit.go ?_
    refine WC.seq (WC.region ?_)
    repeat (first | (refine WL.val ?_ ?_ (Runs.move rfl) ?_; rfl; rfl) | (refine WL.val ?_ ?_ (Runs.assign rfl) ?_; rfl; rfl) | (refine WL.val ?_ ?_ (Runs.extract rfl rfl) ?_; rfl; rfl) | (refine WL.val ?_ ?_ (Runs.nilCheck rfl) ?_; rfl; rfl) | (refine WL.val ?_ ?_ (Runs.pickT rfl rfl) ?_; rfl; rfl) | (refine WL.val ?_ ?_ (Runs.pickF rfl rfl) ?_; rfl; rfl) | (refine WL.val ?_ ?_ (Runs.len rfl sl22) ?_; rfl; rfl) | (refine WL.val ?_ ?_ (Runs.len rfl sl23) ?_; rfl; rfl) | (refine WL.val ?_ ?_ (Runs.len rfl sl24) ?_; rfl; rfl) | (refine WL.val ?_ ?_ (Runs.len rfl sl26) ?_; rfl; rfl) | (refine WL.val ?_ ?_ (Runs.len rfl sl27) ?_; rfl; rfl) | (refine WL.val ?_ ?_ (Runs.len rfl sl48) ?_; rfl; rfl) | (refine WL.val ?_ ?_ (Runs.len rfl sl60) ?_; rfl; rfl) | (refine WL.pass ?_ ?_ ?_; rfl; rfl))
    refine WL.call rfl rfl (RunsC.call rfl en6) (clone_any b1 mq ((n + 63) / 64) _ w2 (by omega) hW3 hs2) ?_
    rintro e w3 ⟨b3, rfl, hs3, hB3⟩
    refine ⟨_, rfl, ?_⟩
    repeat (first | (refine WL.val ?_ ?_ (Runs.move rfl) ?_; rfl; rfl) | (refine WL.val ?_ ?_ (Runs.assign rfl) ?_; rfl; rfl) | (refine WL.val ?_ ?_ (Runs.extract rfl rfl) ?_; rfl; rfl) | (refine WL.val ?_ ?_ (Runs.nilCheck rfl) ?_; rfl; rfl) | (refine WL.val ?_ ?_ (Runs.pickT rfl rfl) ?_; rfl; rfl) | (refine WL.val ?_ ?_ (Runs.pickF rfl rfl) ?_; rfl; rfl) | (refine WL.val ?_ ?_ (Runs.len rfl sl22) ?_; rfl; rfl) | (refine WL.val ?_ ?_ (Runs.len rfl sl23) ?_; rfl; rfl) | (refine WL.val ?_ ?_ (Runs.len rfl sl24) ?_; rfl; rfl) | (refine WL.val ?_ ?_ (Runs.len rfl sl26) ?_; rfl; rfl) | (refine WL.val ?_ ?_ (Runs.len rfl sl27) ?_; rfl; rfl) | (refine WL.val ?_ ?_ (Runs.len rfl sl48) ?_; rfl; rfl) | (refine WL.val ?_ ?_ (Runs.len rfl sl60) ?_; rfl; rfl) | (refine WL.pass ?_ ?_ ?_; rfl; rfl))
    refine WL.nil ?_
    repeat (first | refine AtExit.thenRet ?_ | refine AtExit.thenExit ?_ | refine AtExit.blockRet ?_ | refine AtExit.blockEnd ?_ | refine AtExit.blockExit ?_ | (refine AtExit.blockPast ?_ ?_; rfl))
    refine AtExit.go ?_
    refine WC.seq (WC.region ?_)
    refine WL.val rfl rfl (Runs.build (ps := []) (cs := #[.nilIface]) rfl (by kernel_rfl)) ?_
    refine WL.val rfl rfl (Runs.mkIface rfl concrete51) ?_
    repeat (first | (refine WL.val ?_ ?_ (Runs.move rfl) ?_; rfl; rfl) | (refine WL.val ?_ ?_ (Runs.assign rfl) ?_; rfl; rfl) | (refine WL.val ?_ ?_ (Runs.extract rfl rfl) ?_; rfl; rfl) | (refine WL.val ?_ ?_ (Runs.nilCheck rfl) ?_; rfl; rfl) | (refine WL.val ?_ ?_ (Runs.pickT rfl rfl) ?_; rfl; rfl) | (refine WL.val ?_ ?_ (Runs.pickF rfl rfl) ?_; rfl; rfl) | (refine WL.val ?_ ?_ (Runs.len rfl sl22) ?_; rfl; rfl) | (refine WL.val ?_ ?_ (Runs.len rfl sl23) ?_; rfl; rfl) | (refine WL.val ?_ ?_ (Runs.len rfl sl24) ?_; rfl; rfl) | (refine WL.val ?_ ?_ (Runs.len rfl sl26) ?_; rfl; rfl) | (refine WL.val ?_ ?_ (Runs.len rfl sl27) ?_; rfl; rfl) | (refine WL.val ?_ ?_ (Runs.len rfl sl48) ?_; rfl; rfl) | (refine WL.val ?_ ?_ (Runs.len rfl sl60) ?_; rfl; rfl) | (refine WL.pass ?_ ?_ ?_; rfl; rfl))
    refine WL.val rfl rfl (Runs.build (cs := #[.slice (some ⟨nb, 0, none⟩) n n, .slice (some ⟨b1, 0, none⟩) mq mq]) rfl (by kernel_rfl)) ?_
    refine WL.val rfl rfl (Runs.box rfl) ?_
    refine WL.val rfl rfl (Runs.build (cs := #[.slice none 0 0, .string ⟨#[103, 114, 105, 100]⟩, .iface 51 (.agg #[.nilIface]), .pointer (some ⟨w3.heap.size, 0, none⟩), .string ⟨#[]⟩, .slice none 0 0, .pointer none]) rfl (by kernel_rfl)) ?_
    refine WL.val rfl rfl (Runs.box rfl) ?_
    repeat (first | (refine WL.val ?_ ?_ (Runs.move rfl) ?_; rfl; rfl) | (refine WL.val ?_ ?_ (Runs.assign rfl) ?_; rfl; rfl) | (refine WL.val ?_ ?_ (Runs.extract rfl rfl) ?_; rfl; rfl) | (refine WL.val ?_ ?_ (Runs.nilCheck rfl) ?_; rfl; rfl) | (refine WL.val ?_ ?_ (Runs.pickT rfl rfl) ?_; rfl; rfl) | (refine WL.val ?_ ?_ (Runs.pickF rfl rfl) ?_; rfl; rfl) | (refine WL.val ?_ ?_ (Runs.len rfl sl22) ?_; rfl; rfl) | (refine WL.val ?_ ?_ (Runs.len rfl sl23) ?_; rfl; rfl) | (refine WL.val ?_ ?_ (Runs.len rfl sl24) ?_; rfl; rfl) | (refine WL.val ?_ ?_ (Runs.len rfl sl26) ?_; rfl; rfl) | (refine WL.val ?_ ?_ (Runs.len rfl sl27) ?_; rfl; rfl) | (refine WL.val ?_ ?_ (Runs.len rfl sl48) ?_; rfl; rfl) | (refine WL.val ?_ ?_ (Runs.len rfl sl60) ?_; rfl; rfl) | (refine WL.pass ?_ ?_ ?_; rfl; rfl))
    refine WL.nil ?_
    repeat (first | refine AtExit.thenRet ?_ | refine AtExit.thenExit ?_ | refine AtExit.blockRet ?_ | refine AtExit.blockEnd ?_ | refine AtExit.blockExit ?_ | (refine AtExit.blockPast ?_ ?_; rfl))
    refine AtExit.go ?_
    rw [size_new]
    obtain ⟨c1, c2, hB4⟩ := two_new w3 (.cells (Value.agg #[.slice (some ⟨nb, 0, none⟩) n n, .slice (some ⟨b1, 0, none⟩) mq mq]).cells 34) (.cells (Value.agg #[.slice none 0 0, .string ⟨#[103, 114, 105, 100]⟩, .iface 51 (.agg #[.nilIface]), .pointer (some ⟨w3.heap.size, 0, none⟩), .string ⟨#[]⟩, .slice none 0 0, .pointer none]).cells 44)
    generalize (w3.alloc (.cells (Value.agg #[.slice (some ⟨nb, 0, none⟩) n n, .slice (some ⟨b1, 0, none⟩) mq mq]).cells 34)).alloc (.cells (Value.agg #[.slice none 0 0, .string ⟨#[103, 114, 105, 100]⟩, .iface 51 (.agg #[.nilIface]), .pointer (some ⟨w3.heap.size, 0, none⟩), .string ⟨#[]⟩, .slice none 0 0, .pointer none]).cells 44) = w4 at c1 c2 hB4 ⊢
    generalize w3.heap.size = p1 at c1 c2 ⊢
    have hs4 := (hs2.up hB3).up hB4
    have hk4 := hs3.up hB4
    have hB14 := Below.up (Below.up (Below.up hB1 hB2) hB3) hB4
    refine WC.seq (WC.region ?_)
    repeat (first | (refine WL.val ?_ ?_ (Runs.move rfl) ?_; rfl; rfl) | (refine WL.val ?_ ?_ (Runs.assign rfl) ?_; rfl; rfl) | (refine WL.val ?_ ?_ (Runs.extract rfl rfl) ?_; rfl; rfl) | (refine WL.val ?_ ?_ (Runs.nilCheck rfl) ?_; rfl; rfl) | (refine WL.val ?_ ?_ (Runs.pickT rfl rfl) ?_; rfl; rfl) | (refine WL.val ?_ ?_ (Runs.pickF rfl rfl) ?_; rfl; rfl) | (refine WL.val ?_ ?_ (Runs.len rfl sl22) ?_; rfl; rfl) | (refine WL.val ?_ ?_ (Runs.len rfl sl23) ?_; rfl; rfl) | (refine WL.val ?_ ?_ (Runs.len rfl sl24) ?_; rfl; rfl) | (refine WL.val ?_ ?_ (Runs.len rfl sl26) ?_; rfl; rfl) | (refine WL.val ?_ ?_ (Runs.len rfl sl27) ?_; rfl; rfl) | (refine WL.val ?_ ?_ (Runs.len rfl sl48) ?_; rfl; rfl) | (refine WL.val ?_ ?_ (Runs.len rfl sl60) ?_; rfl; rfl) | (refine WL.pass ?_ ?_ ?_; rfl; rfl))
    refine WL.call rfl rfl (RunsC.call rfl en7) (dis_con (p1 + 1) 51 (.agg #[.nilIface]) w4 (by rw [cell_of c2]; rfl) (by rw [cell_of c2]; rfl)) ?_
    rintro e w5 ⟨rfl, rfl⟩
    refine ⟨_, rfl, ?_⟩
    repeat (first | (refine WL.val ?_ ?_ (Runs.move rfl) ?_; rfl; rfl) | (refine WL.val ?_ ?_ (Runs.assign rfl) ?_; rfl; rfl) | (refine WL.val ?_ ?_ (Runs.extract rfl rfl) ?_; rfl; rfl) | (refine WL.val ?_ ?_ (Runs.nilCheck rfl) ?_; rfl; rfl) | (refine WL.val ?_ ?_ (Runs.pickT rfl rfl) ?_; rfl; rfl) | (refine WL.val ?_ ?_ (Runs.pickF rfl rfl) ?_; rfl; rfl) | (refine WL.val ?_ ?_ (Runs.len rfl sl22) ?_; rfl; rfl) | (refine WL.val ?_ ?_ (Runs.len rfl sl23) ?_; rfl; rfl) | (refine WL.val ?_ ?_ (Runs.len rfl sl24) ?_; rfl; rfl) | (refine WL.val ?_ ?_ (Runs.len rfl sl26) ?_; rfl; rfl) | (refine WL.val ?_ ?_ (Runs.len rfl sl27) ?_; rfl; rfl) | (refine WL.val ?_ ?_ (Runs.len rfl sl48) ?_; rfl; rfl) | (refine WL.val ?_ ?_ (Runs.len rfl sl60) ?_; rfl; rfl) | (refine WL.pass ?_ ?_ ?_; rfl; rfl))
    refine WL.nil ?_
    repeat (first | refine AtExit.thenRet ?_ | refine AtExit.thenExit ?_ | refine AtExit.blockRet ?_ | refine AtExit.blockEnd ?_ | refine AtExit.blockExit ?_ | (refine AtExit.blockPast ?_ ?_; rfl))
    refine AtExit.go ?_
    refine WC.seq (WC.region ?_)
    repeat (first | (refine WL.val ?_ ?_ (Runs.move rfl) ?_; rfl; rfl) | (refine WL.val ?_ ?_ (Runs.assign rfl) ?_; rfl; rfl) | (refine WL.val ?_ ?_ (Runs.extract rfl rfl) ?_; rfl; rfl) | (refine WL.val ?_ ?_ (Runs.nilCheck rfl) ?_; rfl; rfl) | (refine WL.val ?_ ?_ (Runs.pickT rfl rfl) ?_; rfl; rfl) | (refine WL.val ?_ ?_ (Runs.pickF rfl rfl) ?_; rfl; rfl) | (refine WL.val ?_ ?_ (Runs.len rfl sl22) ?_; rfl; rfl) | (refine WL.val ?_ ?_ (Runs.len rfl sl23) ?_; rfl; rfl) | (refine WL.val ?_ ?_ (Runs.len rfl sl24) ?_; rfl; rfl) | (refine WL.val ?_ ?_ (Runs.len rfl sl26) ?_; rfl; rfl) | (refine WL.val ?_ ?_ (Runs.len rfl sl27) ?_; rfl; rfl) | (refine WL.val ?_ ?_ (Runs.len rfl sl48) ?_; rfl; rfl) | (refine WL.val ?_ ?_ (Runs.len rfl sl60) ?_; rfl; rfl) | (refine WL.pass ?_ ?_ ?_; rfl; rfl))
    refine WL.val rfl rfl (Runs.eqlS rfl rfl (r := true) (by simp)) ?_
    repeat (first | (refine WL.val ?_ ?_ (Runs.move rfl) ?_; rfl; rfl) | (refine WL.val ?_ ?_ (Runs.assign rfl) ?_; rfl; rfl) | (refine WL.val ?_ ?_ (Runs.extract rfl rfl) ?_; rfl; rfl) | (refine WL.val ?_ ?_ (Runs.nilCheck rfl) ?_; rfl; rfl) | (refine WL.val ?_ ?_ (Runs.pickT rfl rfl) ?_; rfl; rfl) | (refine WL.val ?_ ?_ (Runs.pickF rfl rfl) ?_; rfl; rfl) | (refine WL.val ?_ ?_ (Runs.len rfl sl22) ?_; rfl; rfl) | (refine WL.val ?_ ?_ (Runs.len rfl sl23) ?_; rfl; rfl) | (refine WL.val ?_ ?_ (Runs.len rfl sl24) ?_; rfl; rfl) | (refine WL.val ?_ ?_ (Runs.len rfl sl26) ?_; rfl; rfl) | (refine WL.val ?_ ?_ (Runs.len rfl sl27) ?_; rfl; rfl) | (refine WL.val ?_ ?_ (Runs.len rfl sl48) ?_; rfl; rfl) | (refine WL.val ?_ ?_ (Runs.len rfl sl60) ?_; rfl; rfl) | (refine WL.pass ?_ ?_ ?_; rfl; rfl))
    refine WL.val rfl rfl (Runs.eqlS rfl rfl (r := true) (by simp)) ?_
    repeat (first | (refine WL.val ?_ ?_ (Runs.move rfl) ?_; rfl; rfl) | (refine WL.val ?_ ?_ (Runs.assign rfl) ?_; rfl; rfl) | (refine WL.val ?_ ?_ (Runs.extract rfl rfl) ?_; rfl; rfl) | (refine WL.val ?_ ?_ (Runs.nilCheck rfl) ?_; rfl; rfl) | (refine WL.val ?_ ?_ (Runs.pickT rfl rfl) ?_; rfl; rfl) | (refine WL.val ?_ ?_ (Runs.pickF rfl rfl) ?_; rfl; rfl) | (refine WL.val ?_ ?_ (Runs.len rfl sl22) ?_; rfl; rfl) | (refine WL.val ?_ ?_ (Runs.len rfl sl23) ?_; rfl; rfl) | (refine WL.val ?_ ?_ (Runs.len rfl sl24) ?_; rfl; rfl) | (refine WL.val ?_ ?_ (Runs.len rfl sl26) ?_; rfl; rfl) | (refine WL.val ?_ ?_ (Runs.len rfl sl27) ?_; rfl; rfl) | (refine WL.val ?_ ?_ (Runs.len rfl sl48) ?_; rfl; rfl) | (refine WL.val ?_ ?_ (Runs.len rfl sl60) ?_; rfl; rfl) | (refine WL.pass ?_ ?_ ?_; rfl; rfl))
    refine WL.val rfl rfl (Runs.not rfl) ?_
    repeat (first | (refine WL.val ?_ ?_ (Runs.move rfl) ?_; rfl; rfl) | (refine WL.val ?_ ?_ (Runs.assign rfl) ?_; rfl; rfl) | (refine WL.val ?_ ?_ (Runs.extract rfl rfl) ?_; rfl; rfl) | (refine WL.val ?_ ?_ (Runs.nilCheck rfl) ?_; rfl; rfl) | (refine WL.val ?_ ?_ (Runs.pickT rfl rfl) ?_; rfl; rfl) | (refine WL.val ?_ ?_ (Runs.pickF rfl rfl) ?_; rfl; rfl) | (refine WL.val ?_ ?_ (Runs.len rfl sl22) ?_; rfl; rfl) | (refine WL.val ?_ ?_ (Runs.len rfl sl23) ?_; rfl; rfl) | (refine WL.val ?_ ?_ (Runs.len rfl sl24) ?_; rfl; rfl) | (refine WL.val ?_ ?_ (Runs.len rfl sl26) ?_; rfl; rfl) | (refine WL.val ?_ ?_ (Runs.len rfl sl27) ?_; rfl; rfl) | (refine WL.val ?_ ?_ (Runs.len rfl sl48) ?_; rfl; rfl) | (refine WL.val ?_ ?_ (Runs.len rfl sl60) ?_; rfl; rfl) | (refine WL.pass ?_ ?_ ?_; rfl; rfl))
    refine WL.val rfl rfl (Runs.fld rfl fl44_3) ?_
    refine WL.val rfl rfl (Runs.load rfl na32 (by rw [cell_of c2]; rfl)) ?_
    repeat (first | (refine WL.val ?_ ?_ (Runs.move rfl) ?_; rfl; rfl) | (refine WL.val ?_ ?_ (Runs.assign rfl) ?_; rfl; rfl) | (refine WL.val ?_ ?_ (Runs.extract rfl rfl) ?_; rfl; rfl) | (refine WL.val ?_ ?_ (Runs.nilCheck rfl) ?_; rfl; rfl) | (refine WL.val ?_ ?_ (Runs.pickT rfl rfl) ?_; rfl; rfl) | (refine WL.val ?_ ?_ (Runs.pickF rfl rfl) ?_; rfl; rfl) | (refine WL.val ?_ ?_ (Runs.len rfl sl22) ?_; rfl; rfl) | (refine WL.val ?_ ?_ (Runs.len rfl sl23) ?_; rfl; rfl) | (refine WL.val ?_ ?_ (Runs.len rfl sl24) ?_; rfl; rfl) | (refine WL.val ?_ ?_ (Runs.len rfl sl26) ?_; rfl; rfl) | (refine WL.val ?_ ?_ (Runs.len rfl sl27) ?_; rfl; rfl) | (refine WL.val ?_ ?_ (Runs.len rfl sl48) ?_; rfl; rfl) | (refine WL.val ?_ ?_ (Runs.len rfl sl60) ?_; rfl; rfl) | (refine WL.pass ?_ ?_ ?_; rfl; rfl))
    refine WL.val rfl rfl (Runs.fld rfl fl34_1) ?_
    refine WL.val rfl rfl (Runs.load rfl na26 (by rw [cell_of c1]; rfl)) ?_
    repeat (first | (refine WL.val ?_ ?_ (Runs.move rfl) ?_; rfl; rfl) | (refine WL.val ?_ ?_ (Runs.assign rfl) ?_; rfl; rfl) | (refine WL.val ?_ ?_ (Runs.extract rfl rfl) ?_; rfl; rfl) | (refine WL.val ?_ ?_ (Runs.nilCheck rfl) ?_; rfl; rfl) | (refine WL.val ?_ ?_ (Runs.pickT rfl rfl) ?_; rfl; rfl) | (refine WL.val ?_ ?_ (Runs.pickF rfl rfl) ?_; rfl; rfl) | (refine WL.val ?_ ?_ (Runs.len rfl sl22) ?_; rfl; rfl) | (refine WL.val ?_ ?_ (Runs.len rfl sl23) ?_; rfl; rfl) | (refine WL.val ?_ ?_ (Runs.len rfl sl24) ?_; rfl; rfl) | (refine WL.val ?_ ?_ (Runs.len rfl sl26) ?_; rfl; rfl) | (refine WL.val ?_ ?_ (Runs.len rfl sl27) ?_; rfl; rfl) | (refine WL.val ?_ ?_ (Runs.len rfl sl48) ?_; rfl; rfl) | (refine WL.val ?_ ?_ (Runs.len rfl sl60) ?_; rfl; rfl) | (refine WL.pass ?_ ?_ ?_; rfl; rfl))
    refine WL.call rfl rfl (RunsC.call rfl en9) (same_any b1 b3 mq ((n + 63) / 64) _ w5 (by omega) hW3 hs4 hk4) ?_
    rintro e w7 ⟨rfl, hB7⟩
    refine ⟨_, rfl, ?_⟩
    have g2 := below_heap hB7 (lt_of_heap c2) c2
    repeat (first | (refine WL.val ?_ ?_ (Runs.move rfl) ?_; rfl; rfl) | (refine WL.val ?_ ?_ (Runs.assign rfl) ?_; rfl; rfl) | (refine WL.val ?_ ?_ (Runs.extract rfl rfl) ?_; rfl; rfl) | (refine WL.val ?_ ?_ (Runs.nilCheck rfl) ?_; rfl; rfl) | (refine WL.val ?_ ?_ (Runs.pickT rfl rfl) ?_; rfl; rfl) | (refine WL.val ?_ ?_ (Runs.pickF rfl rfl) ?_; rfl; rfl) | (refine WL.val ?_ ?_ (Runs.len rfl sl22) ?_; rfl; rfl) | (refine WL.val ?_ ?_ (Runs.len rfl sl23) ?_; rfl; rfl) | (refine WL.val ?_ ?_ (Runs.len rfl sl24) ?_; rfl; rfl) | (refine WL.val ?_ ?_ (Runs.len rfl sl26) ?_; rfl; rfl) | (refine WL.val ?_ ?_ (Runs.len rfl sl27) ?_; rfl; rfl) | (refine WL.val ?_ ?_ (Runs.len rfl sl48) ?_; rfl; rfl) | (refine WL.val ?_ ?_ (Runs.len rfl sl60) ?_; rfl; rfl) | (refine WL.pass ?_ ?_ ?_; rfl; rfl))
    refine WL.val rfl rfl (Runs.fld rfl fl44_5) ?_
    refine WL.val rfl rfl (Runs.load rfl na42 (by rw [cell_of g2]; rfl)) ?_
    refine WL.val rfl rfl (Runs.eqlPN rfl pt42 (r := true) rfl) ?_
    repeat (first | (refine WL.val ?_ ?_ (Runs.move rfl) ?_; rfl; rfl) | (refine WL.val ?_ ?_ (Runs.assign rfl) ?_; rfl; rfl) | (refine WL.val ?_ ?_ (Runs.extract rfl rfl) ?_; rfl; rfl) | (refine WL.val ?_ ?_ (Runs.nilCheck rfl) ?_; rfl; rfl) | (refine WL.val ?_ ?_ (Runs.pickT rfl rfl) ?_; rfl; rfl) | (refine WL.val ?_ ?_ (Runs.pickF rfl rfl) ?_; rfl; rfl) | (refine WL.val ?_ ?_ (Runs.len rfl sl22) ?_; rfl; rfl) | (refine WL.val ?_ ?_ (Runs.len rfl sl23) ?_; rfl; rfl) | (refine WL.val ?_ ?_ (Runs.len rfl sl24) ?_; rfl; rfl) | (refine WL.val ?_ ?_ (Runs.len rfl sl26) ?_; rfl; rfl) | (refine WL.val ?_ ?_ (Runs.len rfl sl27) ?_; rfl; rfl) | (refine WL.val ?_ ?_ (Runs.len rfl sl48) ?_; rfl; rfl) | (refine WL.val ?_ ?_ (Runs.len rfl sl60) ?_; rfl; rfl) | (refine WL.pass ?_ ?_ ?_; rfl; rfl))
    refine WL.nil ?_
    repeat (first | refine AtExit.thenRet ?_ | refine AtExit.thenExit ?_ | refine AtExit.blockRet ?_ | refine AtExit.blockEnd ?_ | refine AtExit.blockExit ?_ | (refine AtExit.blockPast ?_ ?_; rfl))
    refine AtExit.go ?_
    refine WC.ret ?_
    repeat (first | refine AtExit.thenRet ?_ | refine AtExit.thenExit ?_ | refine AtExit.blockRet ?_ | refine AtExit.blockEnd ?_ | refine AtExit.blockExit ?_ | (refine AtExit.blockPast ?_ ?_; rfl))
    exact post1 rfl rfl ⟨rfl, by rw [hnb]; exact Below.up hB14 hB7⟩
  refine WL.val rfl rfl (Runs.eql rfl rfl (r := false) (by rw [decide_eq_false_iff_not]; omega)) ?_
  repeat (first | (refine WL.val ?_ ?_ (Runs.move rfl) ?_; rfl; rfl) | (refine WL.val ?_ ?_ (Runs.assign rfl) ?_; rfl; rfl) | (refine WL.val ?_ ?_ (Runs.extract rfl rfl) ?_; rfl; rfl) | (refine WL.val ?_ ?_ (Runs.nilCheck rfl) ?_; rfl; rfl) | (refine WL.val ?_ ?_ (Runs.pickT rfl rfl) ?_; rfl; rfl) | (refine WL.val ?_ ?_ (Runs.pickF rfl rfl) ?_; rfl; rfl) | (refine WL.val ?_ ?_ (Runs.len rfl sl22) ?_; rfl; rfl) | (refine WL.val ?_ ?_ (Runs.len rfl sl23) ?_; rfl; rfl) | (refine WL.val ?_ ?_ (Runs.len rfl sl24) ?_; rfl; rfl) | (refine WL.val ?_ ?_ (Runs.len rfl sl26) ?_; rfl; rfl) | (refine WL.val ?_ ?_ (Runs.len rfl sl27) ?_; rfl; rfl) | (refine WL.val ?_ ?_ (Runs.len rfl sl48) ?_; rfl; rfl) | (refine WL.val ?_ ?_ (Runs.len rfl sl60) ?_; rfl; rfl) | (refine WL.pass ?_ ?_ ?_; rfl; rfl))
  refine WL.nil ?_
  repeat (first | refine AtExit.thenRet ?_ | refine AtExit.thenExit ?_ | refine AtExit.blockRet ?_ | refine AtExit.blockEnd ?_ | refine AtExit.blockExit ?_ | (refine AtExit.blockPast ?_ ?_; rfl))
  refine AtExit.go ?_
  refine WC.condF rfl ?_
  refine WC.seq (WC.region ?_)
  repeat (first | (refine WL.val ?_ ?_ (Runs.move rfl) ?_; rfl; rfl) | (refine WL.val ?_ ?_ (Runs.assign rfl) ?_; rfl; rfl) | (refine WL.val ?_ ?_ (Runs.extract rfl rfl) ?_; rfl; rfl) | (refine WL.val ?_ ?_ (Runs.nilCheck rfl) ?_; rfl; rfl) | (refine WL.val ?_ ?_ (Runs.pickT rfl rfl) ?_; rfl; rfl) | (refine WL.val ?_ ?_ (Runs.pickF rfl rfl) ?_; rfl; rfl) | (refine WL.val ?_ ?_ (Runs.len rfl sl22) ?_; rfl; rfl) | (refine WL.val ?_ ?_ (Runs.len rfl sl23) ?_; rfl; rfl) | (refine WL.val ?_ ?_ (Runs.len rfl sl24) ?_; rfl; rfl) | (refine WL.val ?_ ?_ (Runs.len rfl sl26) ?_; rfl; rfl) | (refine WL.val ?_ ?_ (Runs.len rfl sl27) ?_; rfl; rfl) | (refine WL.val ?_ ?_ (Runs.len rfl sl48) ?_; rfl; rfl) | (refine WL.val ?_ ?_ (Runs.len rfl sl60) ?_; rfl; rfl) | (refine WL.pass ?_ ?_ ?_; rfl; rfl))
  refine WL.call rfl rfl (RunsC.call rfl en5) (build_any n Ar mr Cr Rr w1 hn0 hn1 (by omega) br hr') ?_
  rintro e w2 ⟨b1, b2, rfl, hs2, hm2, hB2⟩
  refine ⟨_, rfl, ?_⟩
  repeat (first | (refine WL.val ?_ ?_ (Runs.move rfl) ?_; rfl; rfl) | (refine WL.val ?_ ?_ (Runs.assign rfl) ?_; rfl; rfl) | (refine WL.val ?_ ?_ (Runs.extract rfl rfl) ?_; rfl; rfl) | (refine WL.val ?_ ?_ (Runs.nilCheck rfl) ?_; rfl; rfl) | (refine WL.val ?_ ?_ (Runs.pickT rfl rfl) ?_; rfl; rfl) | (refine WL.val ?_ ?_ (Runs.pickF rfl rfl) ?_; rfl; rfl) | (refine WL.val ?_ ?_ (Runs.len rfl sl22) ?_; rfl; rfl) | (refine WL.val ?_ ?_ (Runs.len rfl sl23) ?_; rfl; rfl) | (refine WL.val ?_ ?_ (Runs.len rfl sl24) ?_; rfl; rfl) | (refine WL.val ?_ ?_ (Runs.len rfl sl26) ?_; rfl; rfl) | (refine WL.val ?_ ?_ (Runs.len rfl sl27) ?_; rfl; rfl) | (refine WL.val ?_ ?_ (Runs.len rfl sl48) ?_; rfl; rfl) | (refine WL.val ?_ ?_ (Runs.len rfl sl60) ?_; rfl; rfl) | (refine WL.pass ?_ ?_ ?_; rfl; rfl))
  refine WL.nil ?_
  repeat (first | refine AtExit.thenRet ?_ | refine AtExit.thenExit ?_ | refine AtExit.blockRet ?_ | refine AtExit.blockEnd ?_ | refine AtExit.blockExit ?_ | (refine AtExit.blockPast ?_ ?_; rfl))
  refine AtExit.go ?_
  refine WC.seq (WC.region ?_)
  repeat (first | (refine WL.val ?_ ?_ (Runs.move rfl) ?_; rfl; rfl) | (refine WL.val ?_ ?_ (Runs.assign rfl) ?_; rfl; rfl) | (refine WL.val ?_ ?_ (Runs.extract rfl rfl) ?_; rfl; rfl) | (refine WL.val ?_ ?_ (Runs.nilCheck rfl) ?_; rfl; rfl) | (refine WL.val ?_ ?_ (Runs.pickT rfl rfl) ?_; rfl; rfl) | (refine WL.val ?_ ?_ (Runs.pickF rfl rfl) ?_; rfl; rfl) | (refine WL.val ?_ ?_ (Runs.len rfl sl22) ?_; rfl; rfl) | (refine WL.val ?_ ?_ (Runs.len rfl sl23) ?_; rfl; rfl) | (refine WL.val ?_ ?_ (Runs.len rfl sl24) ?_; rfl; rfl) | (refine WL.val ?_ ?_ (Runs.len rfl sl26) ?_; rfl; rfl) | (refine WL.val ?_ ?_ (Runs.len rfl sl27) ?_; rfl; rfl) | (refine WL.val ?_ ?_ (Runs.len rfl sl48) ?_; rfl; rfl) | (refine WL.val ?_ ?_ (Runs.len rfl sl60) ?_; rfl; rfl) | (refine WL.pass ?_ ?_ ?_; rfl; rfl))
  refine WL.call rfl rfl (RunsC.call rfl en5) (build_any n Aw mw Cw Rw w2 hn0 hn1 (by omega) bw (hw'.up hB2)) ?_
  rintro e w3 ⟨c1, c2, rfl, hs3, hm3, hB3⟩
  refine ⟨_, rfl, ?_⟩
  repeat (first | (refine WL.val ?_ ?_ (Runs.move rfl) ?_; rfl; rfl) | (refine WL.val ?_ ?_ (Runs.assign rfl) ?_; rfl; rfl) | (refine WL.val ?_ ?_ (Runs.extract rfl rfl) ?_; rfl; rfl) | (refine WL.val ?_ ?_ (Runs.nilCheck rfl) ?_; rfl; rfl) | (refine WL.val ?_ ?_ (Runs.pickT rfl rfl) ?_; rfl; rfl) | (refine WL.val ?_ ?_ (Runs.pickF rfl rfl) ?_; rfl; rfl) | (refine WL.val ?_ ?_ (Runs.len rfl sl22) ?_; rfl; rfl) | (refine WL.val ?_ ?_ (Runs.len rfl sl23) ?_; rfl; rfl) | (refine WL.val ?_ ?_ (Runs.len rfl sl24) ?_; rfl; rfl) | (refine WL.val ?_ ?_ (Runs.len rfl sl26) ?_; rfl; rfl) | (refine WL.val ?_ ?_ (Runs.len rfl sl27) ?_; rfl; rfl) | (refine WL.val ?_ ?_ (Runs.len rfl sl48) ?_; rfl; rfl) | (refine WL.val ?_ ?_ (Runs.len rfl sl60) ?_; rfl; rfl) | (refine WL.pass ?_ ?_ ?_; rfl; rfl))
  refine WL.nil ?_
  repeat (first | refine AtExit.thenRet ?_ | refine AtExit.thenExit ?_ | refine AtExit.blockRet ?_ | refine AtExit.blockEnd ?_ | refine AtExit.blockExit ?_ | (refine AtExit.blockPast ?_ ?_; rfl))
  refine AtExit.go ?_
  refine WC.seq (WC.region ?_)
  repeat (first | (refine WL.val ?_ ?_ (Runs.move rfl) ?_; rfl; rfl) | (refine WL.val ?_ ?_ (Runs.assign rfl) ?_; rfl; rfl) | (refine WL.val ?_ ?_ (Runs.extract rfl rfl) ?_; rfl; rfl) | (refine WL.val ?_ ?_ (Runs.nilCheck rfl) ?_; rfl; rfl) | (refine WL.val ?_ ?_ (Runs.pickT rfl rfl) ?_; rfl; rfl) | (refine WL.val ?_ ?_ (Runs.pickF rfl rfl) ?_; rfl; rfl) | (refine WL.val ?_ ?_ (Runs.len rfl sl22) ?_; rfl; rfl) | (refine WL.val ?_ ?_ (Runs.len rfl sl23) ?_; rfl; rfl) | (refine WL.val ?_ ?_ (Runs.len rfl sl24) ?_; rfl; rfl) | (refine WL.val ?_ ?_ (Runs.len rfl sl26) ?_; rfl; rfl) | (refine WL.val ?_ ?_ (Runs.len rfl sl27) ?_; rfl; rfl) | (refine WL.val ?_ ?_ (Runs.len rfl sl48) ?_; rfl; rfl) | (refine WL.val ?_ ?_ (Runs.len rfl sl60) ?_; rfl; rfl) | (refine WL.pass ?_ ?_ ?_; rfl; rfl))
  refine WL.call rfl rfl (RunsC.call rfl en6) (clone_any b1 mr ((n + 63) / 64) _ w3 (by omega) hW3 (hs2.up hB3)) ?_
  rintro e w4 ⟨b3, rfl, hk4, hB4⟩
  refine ⟨_, rfl, ?_⟩
  repeat (first | (refine WL.val ?_ ?_ (Runs.move rfl) ?_; rfl; rfl) | (refine WL.val ?_ ?_ (Runs.assign rfl) ?_; rfl; rfl) | (refine WL.val ?_ ?_ (Runs.extract rfl rfl) ?_; rfl; rfl) | (refine WL.val ?_ ?_ (Runs.nilCheck rfl) ?_; rfl; rfl) | (refine WL.val ?_ ?_ (Runs.pickT rfl rfl) ?_; rfl; rfl) | (refine WL.val ?_ ?_ (Runs.pickF rfl rfl) ?_; rfl; rfl) | (refine WL.val ?_ ?_ (Runs.len rfl sl22) ?_; rfl; rfl) | (refine WL.val ?_ ?_ (Runs.len rfl sl23) ?_; rfl; rfl) | (refine WL.val ?_ ?_ (Runs.len rfl sl24) ?_; rfl; rfl) | (refine WL.val ?_ ?_ (Runs.len rfl sl26) ?_; rfl; rfl) | (refine WL.val ?_ ?_ (Runs.len rfl sl27) ?_; rfl; rfl) | (refine WL.val ?_ ?_ (Runs.len rfl sl48) ?_; rfl; rfl) | (refine WL.val ?_ ?_ (Runs.len rfl sl60) ?_; rfl; rfl) | (refine WL.pass ?_ ?_ ?_; rfl; rfl))
  refine WL.nil ?_
  repeat (first | refine AtExit.thenRet ?_ | refine AtExit.thenExit ?_ | refine AtExit.blockRet ?_ | refine AtExit.blockEnd ?_ | refine AtExit.blockExit ?_ | (refine AtExit.blockPast ?_ ?_; rfl))
  refine AtExit.go ?_
  refine WC.seq (WC.region ?_)
  repeat (first | (refine WL.val ?_ ?_ (Runs.move rfl) ?_; rfl; rfl) | (refine WL.val ?_ ?_ (Runs.assign rfl) ?_; rfl; rfl) | (refine WL.val ?_ ?_ (Runs.extract rfl rfl) ?_; rfl; rfl) | (refine WL.val ?_ ?_ (Runs.nilCheck rfl) ?_; rfl; rfl) | (refine WL.val ?_ ?_ (Runs.pickT rfl rfl) ?_; rfl; rfl) | (refine WL.val ?_ ?_ (Runs.pickF rfl rfl) ?_; rfl; rfl) | (refine WL.val ?_ ?_ (Runs.len rfl sl22) ?_; rfl; rfl) | (refine WL.val ?_ ?_ (Runs.len rfl sl23) ?_; rfl; rfl) | (refine WL.val ?_ ?_ (Runs.len rfl sl24) ?_; rfl; rfl) | (refine WL.val ?_ ?_ (Runs.len rfl sl26) ?_; rfl; rfl) | (refine WL.val ?_ ?_ (Runs.len rfl sl27) ?_; rfl; rfl) | (refine WL.val ?_ ?_ (Runs.len rfl sl48) ?_; rfl; rfl) | (refine WL.val ?_ ?_ (Runs.len rfl sl60) ?_; rfl; rfl) | (refine WL.pass ?_ ?_ ?_; rfl; rfl))
  refine WL.call rfl rfl (RunsC.call rfl en6) (clone_any c1 mw ((n + 63) / 64) _ w4 (by omega) hW3 (hs3.up hB4)) ?_
  rintro e w5 ⟨c3, rfl, hl5, hB5⟩
  refine ⟨_, rfl, ?_⟩
  repeat (first | (refine WL.val ?_ ?_ (Runs.move rfl) ?_; rfl; rfl) | (refine WL.val ?_ ?_ (Runs.assign rfl) ?_; rfl; rfl) | (refine WL.val ?_ ?_ (Runs.extract rfl rfl) ?_; rfl; rfl) | (refine WL.val ?_ ?_ (Runs.nilCheck rfl) ?_; rfl; rfl) | (refine WL.val ?_ ?_ (Runs.pickT rfl rfl) ?_; rfl; rfl) | (refine WL.val ?_ ?_ (Runs.pickF rfl rfl) ?_; rfl; rfl) | (refine WL.val ?_ ?_ (Runs.len rfl sl22) ?_; rfl; rfl) | (refine WL.val ?_ ?_ (Runs.len rfl sl23) ?_; rfl; rfl) | (refine WL.val ?_ ?_ (Runs.len rfl sl24) ?_; rfl; rfl) | (refine WL.val ?_ ?_ (Runs.len rfl sl26) ?_; rfl; rfl) | (refine WL.val ?_ ?_ (Runs.len rfl sl27) ?_; rfl; rfl) | (refine WL.val ?_ ?_ (Runs.len rfl sl48) ?_; rfl; rfl) | (refine WL.val ?_ ?_ (Runs.len rfl sl60) ?_; rfl; rfl) | (refine WL.pass ?_ ?_ ?_; rfl; rfl))
  refine WL.nil ?_
  repeat (first | refine AtExit.thenRet ?_ | refine AtExit.thenExit ?_ | refine AtExit.blockRet ?_ | refine AtExit.blockEnd ?_ | refine AtExit.blockExit ?_ | (refine AtExit.blockPast ?_ ?_; rfl))
  refine AtExit.go ?_
  refine WC.seq (WC.region ?_)
  repeat (first | (refine WL.val ?_ ?_ (Runs.move rfl) ?_; rfl; rfl) | (refine WL.val ?_ ?_ (Runs.assign rfl) ?_; rfl; rfl) | (refine WL.val ?_ ?_ (Runs.extract rfl rfl) ?_; rfl; rfl) | (refine WL.val ?_ ?_ (Runs.nilCheck rfl) ?_; rfl; rfl) | (refine WL.val ?_ ?_ (Runs.pickT rfl rfl) ?_; rfl; rfl) | (refine WL.val ?_ ?_ (Runs.pickF rfl rfl) ?_; rfl; rfl) | (refine WL.val ?_ ?_ (Runs.len rfl sl22) ?_; rfl; rfl) | (refine WL.val ?_ ?_ (Runs.len rfl sl23) ?_; rfl; rfl) | (refine WL.val ?_ ?_ (Runs.len rfl sl24) ?_; rfl; rfl) | (refine WL.val ?_ ?_ (Runs.len rfl sl26) ?_; rfl; rfl) | (refine WL.val ?_ ?_ (Runs.len rfl sl27) ?_; rfl; rfl) | (refine WL.val ?_ ?_ (Runs.len rfl sl48) ?_; rfl; rfl) | (refine WL.val ?_ ?_ (Runs.len rfl sl60) ?_; rfl; rfl) | (refine WL.pass ?_ ?_ ?_; rfl; rfl))
  refine WL.val rfl rfl (Runs.build (cs := #[.slice (some ⟨nb, 0, none⟩) n n, .slice (some ⟨b1, 0, none⟩) mr mr]) rfl (by kernel_rfl)) ?_
  refine WL.val rfl rfl (Runs.box rfl) ?_
  repeat (first | (refine WL.val ?_ ?_ (Runs.move rfl) ?_; rfl; rfl) | (refine WL.val ?_ ?_ (Runs.assign rfl) ?_; rfl; rfl) | (refine WL.val ?_ ?_ (Runs.extract rfl rfl) ?_; rfl; rfl) | (refine WL.val ?_ ?_ (Runs.nilCheck rfl) ?_; rfl; rfl) | (refine WL.val ?_ ?_ (Runs.pickT rfl rfl) ?_; rfl; rfl) | (refine WL.val ?_ ?_ (Runs.pickF rfl rfl) ?_; rfl; rfl) | (refine WL.val ?_ ?_ (Runs.len rfl sl22) ?_; rfl; rfl) | (refine WL.val ?_ ?_ (Runs.len rfl sl23) ?_; rfl; rfl) | (refine WL.val ?_ ?_ (Runs.len rfl sl24) ?_; rfl; rfl) | (refine WL.val ?_ ?_ (Runs.len rfl sl26) ?_; rfl; rfl) | (refine WL.val ?_ ?_ (Runs.len rfl sl27) ?_; rfl; rfl) | (refine WL.val ?_ ?_ (Runs.len rfl sl48) ?_; rfl; rfl) | (refine WL.val ?_ ?_ (Runs.len rfl sl60) ?_; rfl; rfl) | (refine WL.pass ?_ ?_ ?_; rfl; rfl))
  refine WL.val rfl rfl (Runs.build (cs := #[.pointer (some ⟨w5.heap.size, 0, none⟩), .string rl]) rfl (by kernel_rfl)) ?_
  repeat (first | (refine WL.val ?_ ?_ (Runs.move rfl) ?_; rfl; rfl) | (refine WL.val ?_ ?_ (Runs.assign rfl) ?_; rfl; rfl) | (refine WL.val ?_ ?_ (Runs.extract rfl rfl) ?_; rfl; rfl) | (refine WL.val ?_ ?_ (Runs.nilCheck rfl) ?_; rfl; rfl) | (refine WL.val ?_ ?_ (Runs.pickT rfl rfl) ?_; rfl; rfl) | (refine WL.val ?_ ?_ (Runs.pickF rfl rfl) ?_; rfl; rfl) | (refine WL.val ?_ ?_ (Runs.len rfl sl22) ?_; rfl; rfl) | (refine WL.val ?_ ?_ (Runs.len rfl sl23) ?_; rfl; rfl) | (refine WL.val ?_ ?_ (Runs.len rfl sl24) ?_; rfl; rfl) | (refine WL.val ?_ ?_ (Runs.len rfl sl26) ?_; rfl; rfl) | (refine WL.val ?_ ?_ (Runs.len rfl sl27) ?_; rfl; rfl) | (refine WL.val ?_ ?_ (Runs.len rfl sl48) ?_; rfl; rfl) | (refine WL.val ?_ ?_ (Runs.len rfl sl60) ?_; rfl; rfl) | (refine WL.pass ?_ ?_ ?_; rfl; rfl))
  refine WL.val rfl rfl (Runs.build (cs := #[.slice (some ⟨nb, 0, none⟩) n n, .slice (some ⟨c1, 0, none⟩) mw mw]) rfl (by kernel_rfl)) ?_
  refine WL.val rfl rfl (Runs.box rfl) ?_
  repeat (first | (refine WL.val ?_ ?_ (Runs.move rfl) ?_; rfl; rfl) | (refine WL.val ?_ ?_ (Runs.assign rfl) ?_; rfl; rfl) | (refine WL.val ?_ ?_ (Runs.extract rfl rfl) ?_; rfl; rfl) | (refine WL.val ?_ ?_ (Runs.nilCheck rfl) ?_; rfl; rfl) | (refine WL.val ?_ ?_ (Runs.pickT rfl rfl) ?_; rfl; rfl) | (refine WL.val ?_ ?_ (Runs.pickF rfl rfl) ?_; rfl; rfl) | (refine WL.val ?_ ?_ (Runs.len rfl sl22) ?_; rfl; rfl) | (refine WL.val ?_ ?_ (Runs.len rfl sl23) ?_; rfl; rfl) | (refine WL.val ?_ ?_ (Runs.len rfl sl24) ?_; rfl; rfl) | (refine WL.val ?_ ?_ (Runs.len rfl sl26) ?_; rfl; rfl) | (refine WL.val ?_ ?_ (Runs.len rfl sl27) ?_; rfl; rfl) | (refine WL.val ?_ ?_ (Runs.len rfl sl48) ?_; rfl; rfl) | (refine WL.val ?_ ?_ (Runs.len rfl sl60) ?_; rfl; rfl) | (refine WL.pass ?_ ?_ ?_; rfl; rfl))
  rw [size_new]
  refine WL.val rfl rfl (Runs.build (cs := #[.pointer (some ⟨w5.heap.size + 1, 0, none⟩), .string wl]) rfl (by kernel_rfl)) ?_
  refine WL.val rfl rfl (Runs.build (cs := #[.pointer (some ⟨w5.heap.size, 0, none⟩), .string rl, .pointer (some ⟨w5.heap.size + 1, 0, none⟩), .string wl, .string ⟨#[]⟩, .slice none 0 0, .string ⟨#[]⟩, .slice none 0 0]) rfl (by kernel_rfl)) ?_
  refine WL.val rfl rfl (Runs.box rfl) ?_
  repeat (first | (refine WL.val ?_ ?_ (Runs.move rfl) ?_; rfl; rfl) | (refine WL.val ?_ ?_ (Runs.assign rfl) ?_; rfl; rfl) | (refine WL.val ?_ ?_ (Runs.extract rfl rfl) ?_; rfl; rfl) | (refine WL.val ?_ ?_ (Runs.nilCheck rfl) ?_; rfl; rfl) | (refine WL.val ?_ ?_ (Runs.pickT rfl rfl) ?_; rfl; rfl) | (refine WL.val ?_ ?_ (Runs.pickF rfl rfl) ?_; rfl; rfl) | (refine WL.val ?_ ?_ (Runs.len rfl sl22) ?_; rfl; rfl) | (refine WL.val ?_ ?_ (Runs.len rfl sl23) ?_; rfl; rfl) | (refine WL.val ?_ ?_ (Runs.len rfl sl24) ?_; rfl; rfl) | (refine WL.val ?_ ?_ (Runs.len rfl sl26) ?_; rfl; rfl) | (refine WL.val ?_ ?_ (Runs.len rfl sl27) ?_; rfl; rfl) | (refine WL.val ?_ ?_ (Runs.len rfl sl48) ?_; rfl; rfl) | (refine WL.val ?_ ?_ (Runs.len rfl sl60) ?_; rfl; rfl) | (refine WL.pass ?_ ?_ ?_; rfl; rfl))
  refine WL.nil ?_
  repeat (first | refine AtExit.thenRet ?_ | refine AtExit.thenExit ?_ | refine AtExit.blockRet ?_ | refine AtExit.blockEnd ?_ | refine AtExit.blockExit ?_ | (refine AtExit.blockPast ?_ ?_; rfl))
  refine AtExit.go ?_
  rw [size_new, size_new]
  refine WC.seq (WC.region ?_)
  repeat (first | (refine WL.val ?_ ?_ (Runs.move rfl) ?_; rfl; rfl) | (refine WL.val ?_ ?_ (Runs.assign rfl) ?_; rfl; rfl) | (refine WL.val ?_ ?_ (Runs.extract rfl rfl) ?_; rfl; rfl) | (refine WL.val ?_ ?_ (Runs.nilCheck rfl) ?_; rfl; rfl) | (refine WL.val ?_ ?_ (Runs.pickT rfl rfl) ?_; rfl; rfl) | (refine WL.val ?_ ?_ (Runs.pickF rfl rfl) ?_; rfl; rfl) | (refine WL.val ?_ ?_ (Runs.len rfl sl22) ?_; rfl; rfl) | (refine WL.val ?_ ?_ (Runs.len rfl sl23) ?_; rfl; rfl) | (refine WL.val ?_ ?_ (Runs.len rfl sl24) ?_; rfl; rfl) | (refine WL.val ?_ ?_ (Runs.len rfl sl26) ?_; rfl; rfl) | (refine WL.val ?_ ?_ (Runs.len rfl sl27) ?_; rfl; rfl) | (refine WL.val ?_ ?_ (Runs.len rfl sl48) ?_; rfl; rfl) | (refine WL.val ?_ ?_ (Runs.len rfl sl60) ?_; rfl; rfl) | (refine WL.pass ?_ ?_ ?_; rfl; rfl))
  refine WL.val rfl rfl (Runs.build (cs := #[.slice none 0 0, .string ⟨#[101, 120, 112, 108, 105, 99, 105, 116]⟩, .nilIface, .pointer none, .string ⟨#[]⟩, .slice none 0 0, .pointer (some ⟨w5.heap.size + 2, 0, none⟩)]) rfl (by kernel_rfl)) ?_
  refine WL.val rfl rfl (Runs.box rfl) ?_
  repeat (first | (refine WL.val ?_ ?_ (Runs.move rfl) ?_; rfl; rfl) | (refine WL.val ?_ ?_ (Runs.assign rfl) ?_; rfl; rfl) | (refine WL.val ?_ ?_ (Runs.extract rfl rfl) ?_; rfl; rfl) | (refine WL.val ?_ ?_ (Runs.nilCheck rfl) ?_; rfl; rfl) | (refine WL.val ?_ ?_ (Runs.pickT rfl rfl) ?_; rfl; rfl) | (refine WL.val ?_ ?_ (Runs.pickF rfl rfl) ?_; rfl; rfl) | (refine WL.val ?_ ?_ (Runs.len rfl sl22) ?_; rfl; rfl) | (refine WL.val ?_ ?_ (Runs.len rfl sl23) ?_; rfl; rfl) | (refine WL.val ?_ ?_ (Runs.len rfl sl24) ?_; rfl; rfl) | (refine WL.val ?_ ?_ (Runs.len rfl sl26) ?_; rfl; rfl) | (refine WL.val ?_ ?_ (Runs.len rfl sl27) ?_; rfl; rfl) | (refine WL.val ?_ ?_ (Runs.len rfl sl48) ?_; rfl; rfl) | (refine WL.val ?_ ?_ (Runs.len rfl sl60) ?_; rfl; rfl) | (refine WL.pass ?_ ?_ ?_; rfl; rfl))
  refine WL.nil ?_
  repeat (first | refine AtExit.thenRet ?_ | refine AtExit.thenExit ?_ | refine AtExit.blockRet ?_ | refine AtExit.blockEnd ?_ | refine AtExit.blockExit ?_ | (refine AtExit.blockPast ?_ ?_; rfl))
  refine AtExit.go ?_
  rw [size_new, size_new, size_new]
  obtain ⟨d0, d1, d2, d3, hB6⟩ := four_new w5 (.cells (Value.agg #[.slice (some ⟨nb, 0, none⟩) n n, .slice (some ⟨b1, 0, none⟩) mr mr]).cells 34) (.cells (Value.agg #[.slice (some ⟨nb, 0, none⟩) n n, .slice (some ⟨c1, 0, none⟩) mw mw]).cells 34) (.cells (Value.agg #[.pointer (some ⟨w5.heap.size, 0, none⟩), .string rl, .pointer (some ⟨w5.heap.size + 1, 0, none⟩), .string wl, .string ⟨#[]⟩, .slice none 0 0, .string ⟨#[]⟩, .slice none 0 0]).cells 57) (.cells (Value.agg #[.slice none 0 0, .string ⟨#[101, 120, 112, 108, 105, 99, 105, 116]⟩, .nilIface, .pointer none, .string ⟨#[]⟩, .slice none 0 0, .pointer (some ⟨w5.heap.size + 2, 0, none⟩)]).cells 44)
  generalize (((w5.alloc (.cells (Value.agg #[.slice (some ⟨nb, 0, none⟩) n n, .slice (some ⟨b1, 0, none⟩) mr mr]).cells 34)).alloc (.cells (Value.agg #[.slice (some ⟨nb, 0, none⟩) n n, .slice (some ⟨c1, 0, none⟩) mw mw]).cells 34)).alloc (.cells (Value.agg #[.pointer (some ⟨w5.heap.size, 0, none⟩), .string rl, .pointer (some ⟨w5.heap.size + 1, 0, none⟩), .string wl, .string ⟨#[]⟩, .slice none 0 0, .string ⟨#[]⟩, .slice none 0 0]).cells 57)).alloc (.cells (Value.agg #[.slice none 0 0, .string ⟨#[101, 120, 112, 108, 105, 99, 105, 116]⟩, .nilIface, .pointer none, .string ⟨#[]⟩, .slice none 0 0, .pointer (some ⟨w5.heap.size + 2, 0, none⟩)]).cells 44) = w6 at d0 d1 d2 d3 hB6 ⊢
  have hs6 := (((hs2.up hB3).up hB4).up hB5).up hB6
  have ht6 := ((hs3.up hB4).up hB5).up hB6
  have hk6 := (hk4.up hB5).up hB6
  have hl6 := hl5.up hB6
  have hm6 := (((hm2.up hB3).up hB4).up hB5).up hB6
  have ho6 := ((hm3.up hB4).up hB5).up hB6
  have hB16 := Below.up (Below.up (Below.up (Below.up (Below.up hB1 hB2) hB3) hB4) hB5) hB6
  have htab6 := ht.below hB16 ht.pos
  generalize w5.heap.size = p1 at d0 d1 d2 d3 ⊢
  obtain ⟨i0, j0, ok0, hF0, hi0, hj0⟩ := FirstAt.thereIs (apart ((n + 63) / 64) (fun k j => wordOf n (Rr k) j) (fun k j => wordOf n (Rw k) j)) (fun _ => 0) mr mw
  refine WC.seq (WC.region ?_)
  repeat (first | (refine WL.val ?_ ?_ (Runs.move rfl) ?_; rfl; rfl) | (refine WL.val ?_ ?_ (Runs.assign rfl) ?_; rfl; rfl) | (refine WL.val ?_ ?_ (Runs.extract rfl rfl) ?_; rfl; rfl) | (refine WL.val ?_ ?_ (Runs.nilCheck rfl) ?_; rfl; rfl) | (refine WL.val ?_ ?_ (Runs.pickT rfl rfl) ?_; rfl; rfl) | (refine WL.val ?_ ?_ (Runs.pickF rfl rfl) ?_; rfl; rfl) | (refine WL.val ?_ ?_ (Runs.len rfl sl22) ?_; rfl; rfl) | (refine WL.val ?_ ?_ (Runs.len rfl sl23) ?_; rfl; rfl) | (refine WL.val ?_ ?_ (Runs.len rfl sl24) ?_; rfl; rfl) | (refine WL.val ?_ ?_ (Runs.len rfl sl26) ?_; rfl; rfl) | (refine WL.val ?_ ?_ (Runs.len rfl sl27) ?_; rfl; rfl) | (refine WL.val ?_ ?_ (Runs.len rfl sl48) ?_; rfl; rfl) | (refine WL.val ?_ ?_ (Runs.len rfl sl60) ?_; rfl; rfl) | (refine WL.pass ?_ ?_ ?_; rfl; rfl))
  refine WL.call rfl rfl (RunsC.call rfl en7) (dis_rw (p1 + 3) (p1 + 2) p1 (p1 + 1) b1 c1 mr mw ((n + 63) / 64) _ _ rl wl w6 htab6 (by omega) (by omega) hW3 hrl hwl hs6 ht6 (lt_of_heap d3) (lt_of_heap d2) (lt_of_heap d0) (lt_of_heap d1)
    (by rw [cell_of d3]; rfl) (by rw [cell_of d2]; rfl) (by rw [cell_of d2]; rfl) (by rw [cell_of d2]; rfl) (by rw [cell_of d2]; rfl) (by rw [cell_of d0]; rfl) (by rw [cell_of d1]; rfl) i0 j0 ok0 (by omega) (by omega) hF0) ?_
  rintro e w7 ⟨rfl, hB7⟩
  refine ⟨_, rfl, ?_⟩
  repeat (first | (refine WL.val ?_ ?_ (Runs.move rfl) ?_; rfl; rfl) | (refine WL.val ?_ ?_ (Runs.assign rfl) ?_; rfl; rfl) | (refine WL.val ?_ ?_ (Runs.extract rfl rfl) ?_; rfl; rfl) | (refine WL.val ?_ ?_ (Runs.nilCheck rfl) ?_; rfl; rfl) | (refine WL.val ?_ ?_ (Runs.pickT rfl rfl) ?_; rfl; rfl) | (refine WL.val ?_ ?_ (Runs.pickF rfl rfl) ?_; rfl; rfl) | (refine WL.val ?_ ?_ (Runs.len rfl sl22) ?_; rfl; rfl) | (refine WL.val ?_ ?_ (Runs.len rfl sl23) ?_; rfl; rfl) | (refine WL.val ?_ ?_ (Runs.len rfl sl24) ?_; rfl; rfl) | (refine WL.val ?_ ?_ (Runs.len rfl sl26) ?_; rfl; rfl) | (refine WL.val ?_ ?_ (Runs.len rfl sl27) ?_; rfl; rfl) | (refine WL.val ?_ ?_ (Runs.len rfl sl48) ?_; rfl; rfl) | (refine WL.val ?_ ?_ (Runs.len rfl sl60) ?_; rfl; rfl) | (refine WL.pass ?_ ?_ ?_; rfl; rfl))
  refine WL.nil ?_
  repeat (first | refine AtExit.thenRet ?_ | refine AtExit.thenExit ?_ | refine AtExit.blockRet ?_ | refine AtExit.blockEnd ?_ | refine AtExit.blockExit ?_ | (refine AtExit.blockPast ?_ ?_; rfl))
  refine AtExit.go ?_
  have d0' := below_heap hB7 (lt_of_heap d0) d0
  have d1' := below_heap hB7 (lt_of_heap d1) d1
  have d2' := below_heap hB7 (lt_of_heap d2) d2
  have d3' := below_heap hB7 (lt_of_heap d3) d3
  have hs7 := hs6.up hB7
  have ht7 := ht6.up hB7
  have hk7 := hk6.up hB7
  have hl7 := hl6.up hB7
  have hm7 := hm6.up hB7
  have ho7 := ho6.up hB7
  have hB17 := Below.up hB16 hB7
  clear d0 d1 d2 d3 hs6 ht6 hk6 hl6 hm6 ho6 hs2 hm2 hs3 hm3 hk4 hl5 hB2 hB3 hB4 hB5 hB6 hB16
  obtain ⟨hlt, blk, q1, q2⟩ := hm7
  obtain ⟨hlt', blk', q1', q2'⟩ := ho7
  have hF1 : FirstAt (fun i j => !anyLt (fun v => memOf n (Rr i) v && memOf n (Rw j) v) n) (fun _ => 0) mr mw i0 j0 ok0 := hF0.congr fun i j _ _ => apart_eq n hn0 Rr Rw i j
  generalize hpm : (fun i j => !anyLt (fun v => memOf n (Rr i) v && memOf n (Rw j) v) n) = pm at hF1
  have hpm' : ∀ i j, (!anyLt (fun v => memOf n (Rr i) v && memOf n (Rw j) v) n) = pm i j := fun i j => by rw [← hpm]
  refine WC.seq (WC.region ?_)
  repeat (first | (refine WL.val ?_ ?_ (Runs.move rfl) ?_; rfl; rfl) | (refine WL.val ?_ ?_ (Runs.assign rfl) ?_; rfl; rfl) | (refine WL.val ?_ ?_ (Runs.extract rfl rfl) ?_; rfl; rfl) | (refine WL.val ?_ ?_ (Runs.nilCheck rfl) ?_; rfl; rfl) | (refine WL.val ?_ ?_ (Runs.pickT rfl rfl) ?_; rfl; rfl) | (refine WL.val ?_ ?_ (Runs.pickF rfl rfl) ?_; rfl; rfl) | (refine WL.val ?_ ?_ (Runs.len rfl sl22) ?_; rfl; rfl) | (refine WL.val ?_ ?_ (Runs.len rfl sl23) ?_; rfl; rfl) | (refine WL.val ?_ ?_ (Runs.len rfl sl24) ?_; rfl; rfl) | (refine WL.val ?_ ?_ (Runs.len rfl sl26) ?_; rfl; rfl) | (refine WL.val ?_ ?_ (Runs.len rfl sl27) ?_; rfl; rfl) | (refine WL.val ?_ ?_ (Runs.len rfl sl48) ?_; rfl; rfl) | (refine WL.val ?_ ?_ (Runs.len rfl sl60) ?_; rfl; rfl) | (refine WL.pass ?_ ?_ ?_; rfl; rfl))
  refine WL.val rfl rfl (Runs.addS rfl rfl (by show _ + 1 ≤ _; omega)) ?_
  repeat (first | (refine WL.val ?_ ?_ (Runs.move rfl) ?_; rfl; rfl) | (refine WL.val ?_ ?_ (Runs.assign rfl) ?_; rfl; rfl) | (refine WL.val ?_ ?_ (Runs.extract rfl rfl) ?_; rfl; rfl) | (refine WL.val ?_ ?_ (Runs.nilCheck rfl) ?_; rfl; rfl) | (refine WL.val ?_ ?_ (Runs.pickT rfl rfl) ?_; rfl; rfl) | (refine WL.val ?_ ?_ (Runs.pickF rfl rfl) ?_; rfl; rfl) | (refine WL.val ?_ ?_ (Runs.len rfl sl22) ?_; rfl; rfl) | (refine WL.val ?_ ?_ (Runs.len rfl sl23) ?_; rfl; rfl) | (refine WL.val ?_ ?_ (Runs.len rfl sl24) ?_; rfl; rfl) | (refine WL.val ?_ ?_ (Runs.len rfl sl26) ?_; rfl; rfl) | (refine WL.val ?_ ?_ (Runs.len rfl sl27) ?_; rfl; rfl) | (refine WL.val ?_ ?_ (Runs.len rfl sl48) ?_; rfl; rfl) | (refine WL.val ?_ ?_ (Runs.len rfl sl60) ?_; rfl; rfl) | (refine WL.pass ?_ ?_ ?_; rfl; rfl))
  refine WL.val rfl rfl (Runs.addS rfl rfl (by show _ + 1 ≤ _; omega)) ?_
  repeat (first | (refine WL.val ?_ ?_ (Runs.move rfl) ?_; rfl; rfl) | (refine WL.val ?_ ?_ (Runs.assign rfl) ?_; rfl; rfl) | (refine WL.val ?_ ?_ (Runs.extract rfl rfl) ?_; rfl; rfl) | (refine WL.val ?_ ?_ (Runs.nilCheck rfl) ?_; rfl; rfl) | (refine WL.val ?_ ?_ (Runs.pickT rfl rfl) ?_; rfl; rfl) | (refine WL.val ?_ ?_ (Runs.pickF rfl rfl) ?_; rfl; rfl) | (refine WL.val ?_ ?_ (Runs.len rfl sl22) ?_; rfl; rfl) | (refine WL.val ?_ ?_ (Runs.len rfl sl23) ?_; rfl; rfl) | (refine WL.val ?_ ?_ (Runs.len rfl sl24) ?_; rfl; rfl) | (refine WL.val ?_ ?_ (Runs.len rfl sl26) ?_; rfl; rfl) | (refine WL.val ?_ ?_ (Runs.len rfl sl27) ?_; rfl; rfl) | (refine WL.val ?_ ?_ (Runs.len rfl sl48) ?_; rfl; rfl) | (refine WL.val ?_ ?_ (Runs.len rfl sl60) ?_; rfl; rfl) | (refine WL.pass ?_ ?_ ?_; rfl; rfl))
  refine WL.nil ?_
  repeat (first | refine AtExit.thenRet ?_ | refine AtExit.thenExit ?_ | refine AtExit.blockRet ?_ | refine AtExit.blockEnd ?_ | refine AtExit.blockExit ?_ | (refine AtExit.blockPast ?_ ?_; rfl))
  refine AtExit.go ?_
  refine WC.cut (α := Bool × ByteArray × ByteArray) (fun x => [(48, .slice (some ⟨b3, 0, none⟩) mr mr), (49, .slice (some ⟨c3, 0, none⟩) mw mw), (50, .pointer (some ⟨p1 + 2, 0, none⟩)), (51, .pointer (some ⟨p1 + 3, 0, none⟩)), (52, .string (rl ++ dec (i0 + 1))), (53, .string (wl ++ dec (j0 + 1))), (54, .bool ok0), (5, .string rl), (6, .string wl), (57, .bool x.1), (55, .string x.2.1), (56, .string x.2.2)])
    (fun x w' => Below w7.heap.size w7 w' ∧ x.1 = ok0 ∧ x.2.1 = rl ++ dec (i0 + 1) ∧ x.2.2 = wl ++ dec (j0 + 1)) ?_ ?_
  · refine WC.seq (WC.region ?_)
    repeat (first | (refine WL.val ?_ ?_ (Runs.move rfl) ?_; rfl; rfl) | (refine WL.val ?_ ?_ (Runs.assign rfl) ?_; rfl; rfl) | (refine WL.val ?_ ?_ (Runs.extract rfl rfl) ?_; rfl; rfl) | (refine WL.val ?_ ?_ (Runs.nilCheck rfl) ?_; rfl; rfl) | (refine WL.val ?_ ?_ (Runs.pickT rfl rfl) ?_; rfl; rfl) | (refine WL.val ?_ ?_ (Runs.pickF rfl rfl) ?_; rfl; rfl) | (refine WL.val ?_ ?_ (Runs.len rfl sl22) ?_; rfl; rfl) | (refine WL.val ?_ ?_ (Runs.len rfl sl23) ?_; rfl; rfl) | (refine WL.val ?_ ?_ (Runs.len rfl sl24) ?_; rfl; rfl) | (refine WL.val ?_ ?_ (Runs.len rfl sl26) ?_; rfl; rfl) | (refine WL.val ?_ ?_ (Runs.len rfl sl27) ?_; rfl; rfl) | (refine WL.val ?_ ?_ (Runs.len rfl sl48) ?_; rfl; rfl) | (refine WL.val ?_ ?_ (Runs.len rfl sl60) ?_; rfl; rfl) | (refine WL.pass ?_ ?_ ?_; rfl; rfl))
    refine WL.nil ?_
    repeat (first | refine AtExit.thenRet ?_ | refine AtExit.thenExit ?_ | refine AtExit.blockRet ?_ | refine AtExit.blockEnd ?_ | refine AtExit.blockExit ?_ | (refine AtExit.blockPast ?_ ?_; rfl))
    refine AtExit.go ?_
    refine WC.block ?_
    refine WC.loop (α := Nat × Bool × ByteArray × ByteArray) (fun x => [(48, .slice (some ⟨b3, 0, none⟩) mr mr), (49, .slice (some ⟨c3, 0, none⟩) mw mw), (50, .pointer (some ⟨p1 + 2, 0, none⟩)), (51, .pointer (some ⟨p1 + 3, 0, none⟩)), (52, .string (rl ++ dec (i0 + 1))), (53, .string (wl ++ dec (j0 + 1))), (54, .bool ok0), (5, .string rl), (6, .string wl), (57, .bool x.2.1), (55, .string x.2.2.1), (56, .string x.2.2.2),
        (45, .slice (some ⟨b2, 0, none⟩) mr mr), (47, .slice (some ⟨c2, 0, none⟩) mw mw), (58, .int .i64 (x.1 : Int))])
      (fun x w' => Below w7.heap.size w7 w' ∧ x.1 ≤ mr ∧ Sofar pm (fun _ => 0) mr mw rl wl x.1 x.2.1 x.2.2.1 x.2.2.2) (fun x => mr - x.1) (0, false, rl ++ ⟨#[49]⟩, wl ++ ⟨#[49]⟩) (by repeat (first | exact Sub.nil _ | refine Sub.cons rfl ?_))
      ⟨Below.refl _ _, Nat.zero_le _, Or.inl ⟨rfl, by rw [dec_one], by rw [dec_one], fun i' j' h => absurd h (Nat.not_lt_zero _)⟩⟩ ?_
    rintro ⟨i, eok, ea, eb⟩ w8 ⟨hB8, hi, hso⟩
    dsimp only at hi hso
    refine WC.seq ?_
    refine WC.seq (WC.region ?_)
    repeat (first | (refine WL.val ?_ ?_ (Runs.move rfl) ?_; rfl; rfl) | (refine WL.val ?_ ?_ (Runs.assign rfl) ?_; rfl; rfl) | (refine WL.val ?_ ?_ (Runs.extract rfl rfl) ?_; rfl; rfl) | (refine WL.val ?_ ?_ (Runs.nilCheck rfl) ?_; rfl; rfl) | (refine WL.val ?_ ?_ (Runs.pickT rfl rfl) ?_; rfl; rfl) | (refine WL.val ?_ ?_ (Runs.pickF rfl rfl) ?_; rfl; rfl) | (refine WL.val ?_ ?_ (Runs.len rfl sl22) ?_; rfl; rfl) | (refine WL.val ?_ ?_ (Runs.len rfl sl23) ?_; rfl; rfl) | (refine WL.val ?_ ?_ (Runs.len rfl sl24) ?_; rfl; rfl) | (refine WL.val ?_ ?_ (Runs.len rfl sl26) ?_; rfl; rfl) | (refine WL.val ?_ ?_ (Runs.len rfl sl27) ?_; rfl; rfl) | (refine WL.val ?_ ?_ (Runs.len rfl sl48) ?_; rfl; rfl) | (refine WL.val ?_ ?_ (Runs.len rfl sl60) ?_; rfl; rfl) | (refine WL.pass ?_ ?_ ?_; rfl; rfl))
    by_cases him : i < mr
    · refine WL.val rfl rfl (Runs.lss rfl rfl (declt him)) ?_
      repeat (first | (refine WL.val ?_ ?_ (Runs.move rfl) ?_; rfl; rfl) | (refine WL.val ?_ ?_ (Runs.assign rfl) ?_; rfl; rfl) | (refine WL.val ?_ ?_ (Runs.extract rfl rfl) ?_; rfl; rfl) | (refine WL.val ?_ ?_ (Runs.nilCheck rfl) ?_; rfl; rfl) | (refine WL.val ?_ ?_ (Runs.pickT rfl rfl) ?_; rfl; rfl) | (refine WL.val ?_ ?_ (Runs.pickF rfl rfl) ?_; rfl; rfl) | (refine WL.val ?_ ?_ (Runs.len rfl sl22) ?_; rfl; rfl) | (refine WL.val ?_ ?_ (Runs.len rfl sl23) ?_; rfl; rfl) | (refine WL.val ?_ ?_ (Runs.len rfl sl24) ?_; rfl; rfl) | (refine WL.val ?_ ?_ (Runs.len rfl sl26) ?_; rfl; rfl) | (refine WL.val ?_ ?_ (Runs.len rfl sl27) ?_; rfl; rfl) | (refine WL.val ?_ ?_ (Runs.len rfl sl48) ?_; rfl; rfl) | (refine WL.val ?_ ?_ (Runs.len rfl sl60) ?_; rfl; rfl) | (refine WL.pass ?_ ?_ ?_; rfl; rfl))
      cases eok with
      | true =>
        refine WL.val rfl rfl (Runs.not rfl) ?_
        repeat (first | (refine WL.val ?_ ?_ (Runs.move rfl) ?_; rfl; rfl) | (refine WL.val ?_ ?_ (Runs.assign rfl) ?_; rfl; rfl) | (refine WL.val ?_ ?_ (Runs.extract rfl rfl) ?_; rfl; rfl) | (refine WL.val ?_ ?_ (Runs.nilCheck rfl) ?_; rfl; rfl) | (refine WL.val ?_ ?_ (Runs.pickT rfl rfl) ?_; rfl; rfl) | (refine WL.val ?_ ?_ (Runs.pickF rfl rfl) ?_; rfl; rfl) | (refine WL.val ?_ ?_ (Runs.len rfl sl22) ?_; rfl; rfl) | (refine WL.val ?_ ?_ (Runs.len rfl sl23) ?_; rfl; rfl) | (refine WL.val ?_ ?_ (Runs.len rfl sl24) ?_; rfl; rfl) | (refine WL.val ?_ ?_ (Runs.len rfl sl26) ?_; rfl; rfl) | (refine WL.val ?_ ?_ (Runs.len rfl sl27) ?_; rfl; rfl) | (refine WL.val ?_ ?_ (Runs.len rfl sl48) ?_; rfl; rfl) | (refine WL.val ?_ ?_ (Runs.len rfl sl60) ?_; rfl; rfl) | (refine WL.pass ?_ ?_ ?_; rfl; rfl))
        refine WL.nil ?_
        repeat (first | refine AtExit.thenRet ?_ | refine AtExit.thenExit ?_ | refine AtExit.blockRet ?_ | refine AtExit.blockEnd ?_ | refine AtExit.blockExit ?_ | (refine AtExit.blockPast ?_ ?_; rfl))
        refine AtExit.go ?_
        refine WC.condF rfl ?_
        obtain ⟨e1, e2, e3⟩ := hso.fin (fun h => by cases h) hF1
        refine WC.exit ?_
        repeat (first | refine AtExit.thenRet ?_ | refine AtExit.thenExit ?_ | refine AtExit.blockRet ?_ | refine AtExit.blockEnd ?_ | refine AtExit.blockExit ?_ | (refine AtExit.blockPast ?_ ?_; rfl))
        refine AtExit.inv fun a ha => ⟨(true, ea, eb), ha.sub (by repeat (first | exact Sub.nil _ | refine Sub.cons rfl ?_)), hB8, e1, e2, e3⟩
      | false =>
        refine WL.val rfl rfl (Runs.not rfl) ?_
        repeat (first | (refine WL.val ?_ ?_ (Runs.move rfl) ?_; rfl; rfl) | (refine WL.val ?_ ?_ (Runs.assign rfl) ?_; rfl; rfl) | (refine WL.val ?_ ?_ (Runs.extract rfl rfl) ?_; rfl; rfl) | (refine WL.val ?_ ?_ (Runs.nilCheck rfl) ?_; rfl; rfl) | (refine WL.val ?_ ?_ (Runs.pickT rfl rfl) ?_; rfl; rfl) | (refine WL.val ?_ ?_ (Runs.pickF rfl rfl) ?_; rfl; rfl) | (refine WL.val ?_ ?_ (Runs.len rfl sl22) ?_; rfl; rfl) | (refine WL.val ?_ ?_ (Runs.len rfl sl23) ?_; rfl; rfl) | (refine WL.val ?_ ?_ (Runs.len rfl sl24) ?_; rfl; rfl) | (refine WL.val ?_ ?_ (Runs.len rfl sl26) ?_; rfl; rfl) | (refine WL.val ?_ ?_ (Runs.len rfl sl27) ?_; rfl; rfl) | (refine WL.val ?_ ?_ (Runs.len rfl sl48) ?_; rfl; rfl) | (refine WL.val ?_ ?_ (Runs.len rfl sl60) ?_; rfl; rfl) | (refine WL.pass ?_ ?_ ?_; rfl; rfl))
        refine WL.nil ?_
        repeat (first | refine AtExit.thenRet ?_ | refine AtExit.thenExit ?_ | refine AtExit.blockRet ?_ | refine AtExit.blockEnd ?_ | refine AtExit.blockExit ?_ | (refine AtExit.blockPast ?_ ?_; rfl))
        refine AtExit.go ?_
        refine WC.condT rfl ?_
        refine WC.skip ?_
        repeat (first | refine AtExit.thenRet ?_ | refine AtExit.thenExit ?_ | refine AtExit.blockRet ?_ | refine AtExit.blockEnd ?_ | refine AtExit.blockExit ?_ | (refine AtExit.blockPast ?_ ?_; rfl))
        refine AtExit.go ?_
        rcases hso with ⟨_, hea, heb, hno⟩ | ⟨h, _⟩
        rotate_left
        · cases h
        refine WC.cut (α := Bool × ByteArray × ByteArray) (fun x => [(48, .slice (some ⟨b3, 0, none⟩) mr mr), (49, .slice (some ⟨c3, 0, none⟩) mw mw), (50, .pointer (some ⟨p1 + 2, 0, none⟩)), (51, .pointer (some ⟨p1 + 3, 0, none⟩)), (52, .string (rl ++ dec (i0 + 1))), (53, .string (wl ++ dec (j0 + 1))), (54, .bool ok0), (5, .string rl), (6, .string wl), (57, .bool x.1), (55, .string x.2.1), (56, .string x.2.2),
            (45, .slice (some ⟨b2, 0, none⟩) mr mr), (47, .slice (some ⟨c2, 0, none⟩) mw mw), (58, .int .i64 (i : Int))]) (fun x w' => Below w7.heap.size w7 w' ∧ Sofar pm (fun _ => 0) mr mw rl wl (i + 1) x.1 x.2.1 x.2.2) ?_ ?_
        · refine WC.block ?_
          refine WC.seq (WC.region ?_)
          repeat (first | (refine WL.val ?_ ?_ (Runs.move rfl) ?_; rfl; rfl) | (refine WL.val ?_ ?_ (Runs.assign rfl) ?_; rfl; rfl) | (refine WL.val ?_ ?_ (Runs.extract rfl rfl) ?_; rfl; rfl) | (refine WL.val ?_ ?_ (Runs.nilCheck rfl) ?_; rfl; rfl) | (refine WL.val ?_ ?_ (Runs.pickT rfl rfl) ?_; rfl; rfl) | (refine WL.val ?_ ?_ (Runs.pickF rfl rfl) ?_; rfl; rfl) | (refine WL.val ?_ ?_ (Runs.len rfl sl22) ?_; rfl; rfl) | (refine WL.val ?_ ?_ (Runs.len rfl sl23) ?_; rfl; rfl) | (refine WL.val ?_ ?_ (Runs.len rfl sl24) ?_; rfl; rfl) | (refine WL.val ?_ ?_ (Runs.len rfl sl26) ?_; rfl; rfl) | (refine WL.val ?_ ?_ (Runs.len rfl sl27) ?_; rfl; rfl) | (refine WL.val ?_ ?_ (Runs.len rfl sl48) ?_; rfl; rfl) | (refine WL.val ?_ ?_ (Runs.len rfl sl60) ?_; rfl; rfl) | (refine WL.pass ?_ ?_ ?_; rfl; rfl))
          refine WL.nil ?_
          repeat (first | refine AtExit.thenRet ?_ | refine AtExit.thenExit ?_ | refine AtExit.blockRet ?_ | refine AtExit.blockEnd ?_ | refine AtExit.blockExit ?_ | (refine AtExit.blockPast ?_ ?_; rfl))
          refine AtExit.go ?_
          refine WC.block ?_
          refine WC.loop (α := Nat) (fun j => [(48, .slice (some ⟨b3, 0, none⟩) mr mr), (49, .slice (some ⟨c3, 0, none⟩) mw mw), (50, .pointer (some ⟨p1 + 2, 0, none⟩)), (51, .pointer (some ⟨p1 + 3, 0, none⟩)), (52, .string (rl ++ dec (i0 + 1))), (53, .string (wl ++ dec (j0 + 1))), (54, .bool ok0), (5, .string rl), (6, .string wl), (57, .bool false), (55, .string ea), (56, .string eb),
            (45, .slice (some ⟨b2, 0, none⟩) mr mr), (47, .slice (some ⟨c2, 0, none⟩) mw mw), (58, .int .i64 (i : Int)), (59, .int .i64 (j : Int))]) (fun j w' => Below w7.heap.size w7 w' ∧ j ≤ mw ∧ ∀ j', 0 ≤ j' → j' < j → pm i j' = false) (fun j => mw - j) 0 (by repeat (first | exact Sub.nil _ | refine Sub.cons rfl ?_)) ⟨hB8, by omega, fun j' a b => absurd b (Nat.not_lt_zero _)⟩ ?_
          clear hB8 w8
          rintro j w8 ⟨hB8, hj, hnj⟩
          refine WC.seq ?_
          refine WC.seq (WC.region ?_)
          repeat (first | (refine WL.val ?_ ?_ (Runs.move rfl) ?_; rfl; rfl) | (refine WL.val ?_ ?_ (Runs.assign rfl) ?_; rfl; rfl) | (refine WL.val ?_ ?_ (Runs.extract rfl rfl) ?_; rfl; rfl) | (refine WL.val ?_ ?_ (Runs.nilCheck rfl) ?_; rfl; rfl) | (refine WL.val ?_ ?_ (Runs.pickT rfl rfl) ?_; rfl; rfl) | (refine WL.val ?_ ?_ (Runs.pickF rfl rfl) ?_; rfl; rfl) | (refine WL.val ?_ ?_ (Runs.len rfl sl22) ?_; rfl; rfl) | (refine WL.val ?_ ?_ (Runs.len rfl sl23) ?_; rfl; rfl) | (refine WL.val ?_ ?_ (Runs.len rfl sl24) ?_; rfl; rfl) | (refine WL.val ?_ ?_ (Runs.len rfl sl26) ?_; rfl; rfl) | (refine WL.val ?_ ?_ (Runs.len rfl sl27) ?_; rfl; rfl) | (refine WL.val ?_ ?_ (Runs.len rfl sl48) ?_; rfl; rfl) | (refine WL.val ?_ ?_ (Runs.len rfl sl60) ?_; rfl; rfl) | (refine WL.pass ?_ ?_ ?_; rfl; rfl))
          by_cases hjm : j < mw
          · refine WL.val rfl rfl (Runs.lss rfl rfl (declt hjm)) ?_
            refine WL.nil ?_
            repeat (first | refine AtExit.thenRet ?_ | refine AtExit.thenExit ?_ | refine AtExit.blockRet ?_ | refine AtExit.blockEnd ?_ | refine AtExit.blockExit ?_ | (refine AtExit.blockPast ?_ ?_; rfl))
            refine AtExit.go ?_
            refine WC.condT rfl ?_
            refine WC.skip ?_
            repeat (first | refine AtExit.thenRet ?_ | refine AtExit.thenExit ?_ | refine AtExit.blockRet ?_ | refine AtExit.blockEnd ?_ | refine AtExit.blockExit ?_ | (refine AtExit.blockPast ?_ ?_; rfl))
            refine AtExit.go ?_
            refine WC.seq (WC.block ?_)
            refine WC.seq (WC.quiet (fun w' => Below w7.heap.size w7 w') mixed (by kernel_rfl) (hB8.trans (below_drawn _ _)) ?_)
            repeat (first | (refine QL.val ?_ ?_ (fun wq hC => Runs.move rfl) ?_; rfl; rfl) | (refine QL.val ?_ ?_ (fun wq hC => Runs.assign rfl) ?_; rfl; rfl) | (refine QL.val ?_ ?_ (fun wq hC => Runs.extract rfl rfl) ?_; rfl; rfl) | (refine QL.val ?_ ?_ (fun wq hC => Runs.nilCheck rfl) ?_; rfl; rfl) | (refine QL.val ?_ ?_ (fun wq hC => Runs.pickT rfl rfl) ?_; rfl; rfl) | (refine QL.val ?_ ?_ (fun wq hC => Runs.pickF rfl rfl) ?_; rfl; rfl) | (refine QL.val ?_ ?_ (fun wq hC => Runs.len rfl sl22) ?_; rfl; rfl) | (refine QL.val ?_ ?_ (fun wq hC => Runs.len rfl sl23) ?_; rfl; rfl) | (refine QL.val ?_ ?_ (fun wq hC => Runs.len rfl sl24) ?_; rfl; rfl) | (refine QL.val ?_ ?_ (fun wq hC => Runs.len rfl sl26) ?_; rfl; rfl) | (refine QL.val ?_ ?_ (fun wq hC => Runs.len rfl sl27) ?_; rfl; rfl) | (refine QL.val ?_ ?_ (fun wq hC => Runs.len rfl sl48) ?_; rfl; rfl) | (refine QL.val ?_ ?_ (fun wq hC => Runs.len rfl sl60) ?_; rfl; rfl) | (refine QL.pass ?_ ?_ ?_; rfl; rfl))
            refine QL.val rfl rfl (fun wq hC => Runs.idx1 rfl rfl Ybad.underlying27 sz48 rfl him) ?_
            refine QL.val rfl rfl (fun wq hC => Runs.load rfl na48 ((q1.below hC hlt).cell0 him)) ?_
            repeat (first | (refine QL.val ?_ ?_ (fun wq hC => Runs.move rfl) ?_; rfl; rfl) | (refine QL.val ?_ ?_ (fun wq hC => Runs.assign rfl) ?_; rfl; rfl) | (refine QL.val ?_ ?_ (fun wq hC => Runs.extract rfl rfl) ?_; rfl; rfl) | (refine QL.val ?_ ?_ (fun wq hC => Runs.nilCheck rfl) ?_; rfl; rfl) | (refine QL.val ?_ ?_ (fun wq hC => Runs.pickT rfl rfl) ?_; rfl; rfl) | (refine QL.val ?_ ?_ (fun wq hC => Runs.pickF rfl rfl) ?_; rfl; rfl) | (refine QL.val ?_ ?_ (fun wq hC => Runs.len rfl sl22) ?_; rfl; rfl) | (refine QL.val ?_ ?_ (fun wq hC => Runs.len rfl sl23) ?_; rfl; rfl) | (refine QL.val ?_ ?_ (fun wq hC => Runs.len rfl sl24) ?_; rfl; rfl) | (refine QL.val ?_ ?_ (fun wq hC => Runs.len rfl sl26) ?_; rfl; rfl) | (refine QL.val ?_ ?_ (fun wq hC => Runs.len rfl sl27) ?_; rfl; rfl) | (refine QL.val ?_ ?_ (fun wq hC => Runs.len rfl sl48) ?_; rfl; rfl) | (refine QL.val ?_ ?_ (fun wq hC => Runs.len rfl sl60) ?_; rfl; rfl) | (refine QL.pass ?_ ?_ ?_; rfl; rfl))
            refine QL.val rfl rfl (fun wq hC => Runs.idx1 rfl rfl Ybad.underlying27 sz48 rfl hjm) ?_
            refine QL.val rfl rfl (fun wq hC => Runs.load rfl na48 ((q1'.below hC hlt').cell0 hjm)) ?_
            refine QL.call rfl rfl (fun w' hC => RunsC.call rfl en8) (fun w' hC => (meet_any (blk i) (blk' j) n _ _ w' (by omega) ((q2 i him).2.below hC (q2 i him).1) ((q2' j hjm).2.below hC (q2' j hjm).1)).mono fun e w2 ⟨he, hw⟩ => ⟨he, by rw [hw]; exact hC⟩) ?_
            refine QL.val rfl rfl (fun wq hC => Runs.not rfl) ?_
            refine QL.nil fun w9 hB9 => ?_
            repeat (first | refine AtExit.thenRet ?_ | refine AtExit.thenExit ?_ | refine AtExit.blockRet ?_ | refine AtExit.blockEnd ?_ | refine AtExit.blockExit ?_ | (refine AtExit.blockPast ?_ ?_; rfl))
            refine AtExit.go ?_
            rw [hpm' i j]
            cases hp : pm i j with
            | false =>
              refine WC.condF rfl ?_
              refine WC.skip ?_
              repeat (first | refine AtExit.thenRet ?_ | refine AtExit.thenExit ?_ | refine AtExit.blockRet ?_ | refine AtExit.blockEnd ?_ | refine AtExit.blockExit ?_ | (refine AtExit.blockPast ?_ ?_; rfl))
              refine AtExit.go ?_
              refine WC.region ?_
              repeat (first | (refine WL.val ?_ ?_ (Runs.move rfl) ?_; rfl; rfl) | (refine WL.val ?_ ?_ (Runs.assign rfl) ?_; rfl; rfl) | (refine WL.val ?_ ?_ (Runs.extract rfl rfl) ?_; rfl; rfl) | (refine WL.val ?_ ?_ (Runs.nilCheck rfl) ?_; rfl; rfl) | (refine WL.val ?_ ?_ (Runs.pickT rfl rfl) ?_; rfl; rfl) | (refine WL.val ?_ ?_ (Runs.pickF rfl rfl) ?_; rfl; rfl) | (refine WL.val ?_ ?_ (Runs.len rfl sl22) ?_; rfl; rfl) | (refine WL.val ?_ ?_ (Runs.len rfl sl23) ?_; rfl; rfl) | (refine WL.val ?_ ?_ (Runs.len rfl sl24) ?_; rfl; rfl) | (refine WL.val ?_ ?_ (Runs.len rfl sl26) ?_; rfl; rfl) | (refine WL.val ?_ ?_ (Runs.len rfl sl27) ?_; rfl; rfl) | (refine WL.val ?_ ?_ (Runs.len rfl sl48) ?_; rfl; rfl) | (refine WL.val ?_ ?_ (Runs.len rfl sl60) ?_; rfl; rfl) | (refine WL.pass ?_ ?_ ?_; rfl; rfl))
              refine WL.val rfl rfl (Runs.add rfl rfl (wadd (r := ((j + 1 : Nat) : Int)) (by omega) (by omega) (by omega))) ?_
              repeat (first | (refine WL.val ?_ ?_ (Runs.move rfl) ?_; rfl; rfl) | (refine WL.val ?_ ?_ (Runs.assign rfl) ?_; rfl; rfl) | (refine WL.val ?_ ?_ (Runs.extract rfl rfl) ?_; rfl; rfl) | (refine WL.val ?_ ?_ (Runs.nilCheck rfl) ?_; rfl; rfl) | (refine WL.val ?_ ?_ (Runs.pickT rfl rfl) ?_; rfl; rfl) | (refine WL.val ?_ ?_ (Runs.pickF rfl rfl) ?_; rfl; rfl) | (refine WL.val ?_ ?_ (Runs.len rfl sl22) ?_; rfl; rfl) | (refine WL.val ?_ ?_ (Runs.len rfl sl23) ?_; rfl; rfl) | (refine WL.val ?_ ?_ (Runs.len rfl sl24) ?_; rfl; rfl) | (refine WL.val ?_ ?_ (Runs.len rfl sl26) ?_; rfl; rfl) | (refine WL.val ?_ ?_ (Runs.len rfl sl27) ?_; rfl; rfl) | (refine WL.val ?_ ?_ (Runs.len rfl sl48) ?_; rfl; rfl) | (refine WL.val ?_ ?_ (Runs.len rfl sl60) ?_; rfl; rfl) | (refine WL.pass ?_ ?_ ?_; rfl; rfl))
              refine WL.nil ?_
              repeat (first | refine AtExit.thenRet ?_ | refine AtExit.thenExit ?_ | refine AtExit.blockRet ?_ | refine AtExit.blockEnd ?_ | refine AtExit.blockExit ?_ | (refine AtExit.blockPast ?_ ?_; rfl))
              refine AtExit.inv fun a ha => ⟨j + 1, ha.sub (by repeat (first | exact Sub.nil _ | refine Sub.cons rfl ?_)), ⟨hB9, by omega, fun j' a b => ?_⟩, by omega⟩
              by_cases h : j' < j
              · exact hnj j' a h
              · rw [show j' = j from by omega]; exact hp
            | true =>
              refine WC.condT rfl ?_
              have z1 := dec_size (i + 1)
              have z2 := dec_size (j + 1)
              refine WC.seq (WC.region ?_)
              repeat (first | (refine WL.val ?_ ?_ (Runs.move rfl) ?_; rfl; rfl) | (refine WL.val ?_ ?_ (Runs.assign rfl) ?_; rfl; rfl) | (refine WL.val ?_ ?_ (Runs.extract rfl rfl) ?_; rfl; rfl) | (refine WL.val ?_ ?_ (Runs.nilCheck rfl) ?_; rfl; rfl) | (refine WL.val ?_ ?_ (Runs.pickT rfl rfl) ?_; rfl; rfl) | (refine WL.val ?_ ?_ (Runs.pickF rfl rfl) ?_; rfl; rfl) | (refine WL.val ?_ ?_ (Runs.len rfl sl22) ?_; rfl; rfl) | (refine WL.val ?_ ?_ (Runs.len rfl sl23) ?_; rfl; rfl) | (refine WL.val ?_ ?_ (Runs.len rfl sl24) ?_; rfl; rfl) | (refine WL.val ?_ ?_ (Runs.len rfl sl26) ?_; rfl; rfl) | (refine WL.val ?_ ?_ (Runs.len rfl sl27) ?_; rfl; rfl) | (refine WL.val ?_ ?_ (Runs.len rfl sl48) ?_; rfl; rfl) | (refine WL.val ?_ ?_ (Runs.len rfl sl60) ?_; rfl; rfl) | (refine WL.pass ?_ ?_ ?_; rfl; rfl))
              refine WL.val rfl rfl (Runs.add rfl rfl (wadd (r := ((i + 1 : Nat) : Int)) (by omega) (by omega) (by omega))) ?_
              refine WL.call rfl rfl (RunsC.call rfl en4) (itoa_any (i + 1) w9 (by omega) (by omega)) ?_
              rintro e w10 ⟨rfl, hB10⟩
              refine ⟨_, rfl, ?_⟩
              refine WL.val rfl rfl (Runs.addS (b := dec (i + 1)) rfl rfl (by omega)) ?_
              repeat (first | (refine WL.val ?_ ?_ (Runs.move rfl) ?_; rfl; rfl) | (refine WL.val ?_ ?_ (Runs.assign rfl) ?_; rfl; rfl) | (refine WL.val ?_ ?_ (Runs.extract rfl rfl) ?_; rfl; rfl) | (refine WL.val ?_ ?_ (Runs.nilCheck rfl) ?_; rfl; rfl) | (refine WL.val ?_ ?_ (Runs.pickT rfl rfl) ?_; rfl; rfl) | (refine WL.val ?_ ?_ (Runs.pickF rfl rfl) ?_; rfl; rfl) | (refine WL.val ?_ ?_ (Runs.len rfl sl22) ?_; rfl; rfl) | (refine WL.val ?_ ?_ (Runs.len rfl sl23) ?_; rfl; rfl) | (refine WL.val ?_ ?_ (Runs.len rfl sl24) ?_; rfl; rfl) | (refine WL.val ?_ ?_ (Runs.len rfl sl26) ?_; rfl; rfl) | (refine WL.val ?_ ?_ (Runs.len rfl sl27) ?_; rfl; rfl) | (refine WL.val ?_ ?_ (Runs.len rfl sl48) ?_; rfl; rfl) | (refine WL.val ?_ ?_ (Runs.len rfl sl60) ?_; rfl; rfl) | (refine WL.pass ?_ ?_ ?_; rfl; rfl))
              refine WL.val rfl rfl (Runs.add rfl rfl (wadd (r := ((j + 1 : Nat) : Int)) (by omega) (by omega) (by omega))) ?_
              refine WL.call rfl rfl (RunsC.call rfl en4) (itoa_any (j + 1) w10 (by omega) (by omega)) ?_
              rintro e w11 ⟨rfl, hB11⟩
              refine ⟨_, rfl, ?_⟩
              refine WL.val rfl rfl (Runs.addS (b := dec (j + 1)) rfl rfl (by omega)) ?_
              repeat (first | (refine WL.val ?_ ?_ (Runs.move rfl) ?_; rfl; rfl) | (refine WL.val ?_ ?_ (Runs.assign rfl) ?_; rfl; rfl) | (refine WL.val ?_ ?_ (Runs.extract rfl rfl) ?_; rfl; rfl) | (refine WL.val ?_ ?_ (Runs.nilCheck rfl) ?_; rfl; rfl) | (refine WL.val ?_ ?_ (Runs.pickT rfl rfl) ?_; rfl; rfl) | (refine WL.val ?_ ?_ (Runs.pickF rfl rfl) ?_; rfl; rfl) | (refine WL.val ?_ ?_ (Runs.len rfl sl22) ?_; rfl; rfl) | (refine WL.val ?_ ?_ (Runs.len rfl sl23) ?_; rfl; rfl) | (refine WL.val ?_ ?_ (Runs.len rfl sl24) ?_; rfl; rfl) | (refine WL.val ?_ ?_ (Runs.len rfl sl26) ?_; rfl; rfl) | (refine WL.val ?_ ?_ (Runs.len rfl sl27) ?_; rfl; rfl) | (refine WL.val ?_ ?_ (Runs.len rfl sl48) ?_; rfl; rfl) | (refine WL.val ?_ ?_ (Runs.len rfl sl60) ?_; rfl; rfl) | (refine WL.pass ?_ ?_ ?_; rfl; rfl))
              refine WL.nil ?_
              repeat (first | refine AtExit.thenRet ?_ | refine AtExit.thenExit ?_ | refine AtExit.blockRet ?_ | refine AtExit.blockEnd ?_ | refine AtExit.blockExit ?_ | (refine AtExit.blockPast ?_ ?_; rfl))
              refine AtExit.go ?_
              refine WC.exit ?_
              repeat (first | refine AtExit.thenRet ?_ | refine AtExit.thenExit ?_ | refine AtExit.blockRet ?_ | refine AtExit.blockEnd ?_ | refine AtExit.blockExit ?_ | (refine AtExit.blockPast ?_ ?_; rfl))
              refine AtExit.inv fun a ha => ⟨(true, _, _), ha.sub (by repeat (first | exact Sub.nil _ | refine Sub.cons rfl ?_)), Below.up (Below.up hB9 hB10) hB11, Or.inr ⟨rfl, i, j, rfl, rfl, Or.inl ⟨rfl, him, Nat.zero_le _, hjm, hp, hno, hnj⟩⟩⟩
          · refine WL.val rfl rfl (Runs.lss rfl rfl (decge hjm)) ?_
            refine WL.nil ?_
            repeat (first | refine AtExit.thenRet ?_ | refine AtExit.thenExit ?_ | refine AtExit.blockRet ?_ | refine AtExit.blockEnd ?_ | refine AtExit.blockExit ?_ | (refine AtExit.blockPast ?_ ?_; rfl))
            refine AtExit.go ?_
            refine WC.condF rfl ?_
            refine WC.exit ?_
            repeat (first | refine AtExit.thenRet ?_ | refine AtExit.thenExit ?_ | refine AtExit.blockRet ?_ | refine AtExit.blockEnd ?_ | refine AtExit.blockExit ?_ | (refine AtExit.blockPast ?_ ?_; rfl))
            refine AtExit.inv fun a ha => ⟨(false, ea, eb), ha.sub (by repeat (first | exact Sub.nil _ | refine Sub.cons rfl ?_)), hB8, Or.inl ⟨rfl, hea, heb, fun i' j' a b c => ?_⟩⟩
            by_cases h : i' < i
            · exact hno i' j' h b c
            · obtain rfl : i' = i := by omega
              exact hnj j' b (by omega)
        · rintro ⟨eok, ea, eb⟩ w9 ⟨hB9, hso⟩
          refine WC.region ?_
          repeat (first | (refine WL.val ?_ ?_ (Runs.move rfl) ?_; rfl; rfl) | (refine WL.val ?_ ?_ (Runs.assign rfl) ?_; rfl; rfl) | (refine WL.val ?_ ?_ (Runs.extract rfl rfl) ?_; rfl; rfl) | (refine WL.val ?_ ?_ (Runs.nilCheck rfl) ?_; rfl; rfl) | (refine WL.val ?_ ?_ (Runs.pickT rfl rfl) ?_; rfl; rfl) | (refine WL.val ?_ ?_ (Runs.pickF rfl rfl) ?_; rfl; rfl) | (refine WL.val ?_ ?_ (Runs.len rfl sl22) ?_; rfl; rfl) | (refine WL.val ?_ ?_ (Runs.len rfl sl23) ?_; rfl; rfl) | (refine WL.val ?_ ?_ (Runs.len rfl sl24) ?_; rfl; rfl) | (refine WL.val ?_ ?_ (Runs.len rfl sl26) ?_; rfl; rfl) | (refine WL.val ?_ ?_ (Runs.len rfl sl27) ?_; rfl; rfl) | (refine WL.val ?_ ?_ (Runs.len rfl sl48) ?_; rfl; rfl) | (refine WL.val ?_ ?_ (Runs.len rfl sl60) ?_; rfl; rfl) | (refine WL.pass ?_ ?_ ?_; rfl; rfl))
          refine WL.val rfl rfl (Runs.add rfl rfl (wadd (r := ((i + 1 : Nat) : Int)) (by omega) (by omega) (by omega))) ?_
          repeat (first | (refine WL.val ?_ ?_ (Runs.move rfl) ?_; rfl; rfl) | (refine WL.val ?_ ?_ (Runs.assign rfl) ?_; rfl; rfl) | (refine WL.val ?_ ?_ (Runs.extract rfl rfl) ?_; rfl; rfl) | (refine WL.val ?_ ?_ (Runs.nilCheck rfl) ?_; rfl; rfl) | (refine WL.val ?_ ?_ (Runs.pickT rfl rfl) ?_; rfl; rfl) | (refine WL.val ?_ ?_ (Runs.pickF rfl rfl) ?_; rfl; rfl) | (refine WL.val ?_ ?_ (Runs.len rfl sl22) ?_; rfl; rfl) | (refine WL.val ?_ ?_ (Runs.len rfl sl23) ?_; rfl; rfl) | (refine WL.val ?_ ?_ (Runs.len rfl sl24) ?_; rfl; rfl) | (refine WL.val ?_ ?_ (Runs.len rfl sl26) ?_; rfl; rfl) | (refine WL.val ?_ ?_ (Runs.len rfl sl27) ?_; rfl; rfl) | (refine WL.val ?_ ?_ (Runs.len rfl sl48) ?_; rfl; rfl) | (refine WL.val ?_ ?_ (Runs.len rfl sl60) ?_; rfl; rfl) | (refine WL.pass ?_ ?_ ?_; rfl; rfl))
          refine WL.nil ?_
          repeat (first | refine AtExit.thenRet ?_ | refine AtExit.thenExit ?_ | refine AtExit.blockRet ?_ | refine AtExit.blockEnd ?_ | refine AtExit.blockExit ?_ | (refine AtExit.blockPast ?_ ?_; rfl))
          refine AtExit.inv fun a ha => ⟨(i + 1, eok, ea, eb), ha.sub (by repeat (first | exact Sub.nil _ | refine Sub.cons rfl ?_)), ⟨hB9, by omega, hso⟩, by show mr - (i + 1) < mr - i; omega⟩
    · refine WL.val rfl rfl (Runs.lss rfl rfl (decge him)) ?_
      repeat (first | (refine WL.val ?_ ?_ (Runs.move rfl) ?_; rfl; rfl) | (refine WL.val ?_ ?_ (Runs.assign rfl) ?_; rfl; rfl) | (refine WL.val ?_ ?_ (Runs.extract rfl rfl) ?_; rfl; rfl) | (refine WL.val ?_ ?_ (Runs.nilCheck rfl) ?_; rfl; rfl) | (refine WL.val ?_ ?_ (Runs.pickT rfl rfl) ?_; rfl; rfl) | (refine WL.val ?_ ?_ (Runs.pickF rfl rfl) ?_; rfl; rfl) | (refine WL.val ?_ ?_ (Runs.len rfl sl22) ?_; rfl; rfl) | (refine WL.val ?_ ?_ (Runs.len rfl sl23) ?_; rfl; rfl) | (refine WL.val ?_ ?_ (Runs.len rfl sl24) ?_; rfl; rfl) | (refine WL.val ?_ ?_ (Runs.len rfl sl26) ?_; rfl; rfl) | (refine WL.val ?_ ?_ (Runs.len rfl sl27) ?_; rfl; rfl) | (refine WL.val ?_ ?_ (Runs.len rfl sl48) ?_; rfl; rfl) | (refine WL.val ?_ ?_ (Runs.len rfl sl60) ?_; rfl; rfl) | (refine WL.pass ?_ ?_ ?_; rfl; rfl))
      refine WL.nil ?_
      repeat (first | refine AtExit.thenRet ?_ | refine AtExit.thenExit ?_ | refine AtExit.blockRet ?_ | refine AtExit.blockEnd ?_ | refine AtExit.blockExit ?_ | (refine AtExit.blockPast ?_ ?_; rfl))
      refine AtExit.go ?_
      refine WC.condF rfl ?_
      obtain ⟨e1, e2, e3⟩ := hso.fin (fun _ => by omega) hF1
      refine WC.exit ?_
      repeat (first | refine AtExit.thenRet ?_ | refine AtExit.thenExit ?_ | refine AtExit.blockRet ?_ | refine AtExit.blockEnd ?_ | refine AtExit.blockExit ?_ | (refine AtExit.blockPast ?_ ?_; rfl))
      refine AtExit.inv fun a ha => ⟨(eok, ea, eb), ha.sub (by repeat (first | exact Sub.nil _ | refine Sub.cons rfl ?_)), hB8, e1, e2, e3⟩
  · rintro ⟨eok, ea, eb⟩ w8 ⟨hB8, e1, e2, e3⟩
    dsimp only at e1 e2 e3
    subst e1 e2 e3
    have f0 := below_heap hB8 (lt_of_heap d0') d0'
    have f1 := below_heap hB8 (lt_of_heap d1') d1'
    have f2 := below_heap hB8 (lt_of_heap d2') d2'
    have f3 := below_heap hB8 (lt_of_heap d3') d3'
    refine WC.seq (WC.region ?_)
    repeat (first | (refine WL.val ?_ ?_ (Runs.move rfl) ?_; rfl; rfl) | (refine WL.val ?_ ?_ (Runs.assign rfl) ?_; rfl; rfl) | (refine WL.val ?_ ?_ (Runs.extract rfl rfl) ?_; rfl; rfl) | (refine WL.val ?_ ?_ (Runs.nilCheck rfl) ?_; rfl; rfl) | (refine WL.val ?_ ?_ (Runs.pickT rfl rfl) ?_; rfl; rfl) | (refine WL.val ?_ ?_ (Runs.pickF rfl rfl) ?_; rfl; rfl) | (refine WL.val ?_ ?_ (Runs.len rfl sl22) ?_; rfl; rfl) | (refine WL.val ?_ ?_ (Runs.len rfl sl23) ?_; rfl; rfl) | (refine WL.val ?_ ?_ (Runs.len rfl sl24) ?_; rfl; rfl) | (refine WL.val ?_ ?_ (Runs.len rfl sl26) ?_; rfl; rfl) | (refine WL.val ?_ ?_ (Runs.len rfl sl27) ?_; rfl; rfl) | (refine WL.val ?_ ?_ (Runs.len rfl sl48) ?_; rfl; rfl) | (refine WL.val ?_ ?_ (Runs.len rfl sl60) ?_; rfl; rfl) | (refine WL.pass ?_ ?_ ?_; rfl; rfl))
    refine WL.val rfl rfl (Runs.eqlS rfl rfl (r := true) (by simp)) ?_
    repeat (first | (refine WL.val ?_ ?_ (Runs.move rfl) ?_; rfl; rfl) | (refine WL.val ?_ ?_ (Runs.assign rfl) ?_; rfl; rfl) | (refine WL.val ?_ ?_ (Runs.extract rfl rfl) ?_; rfl; rfl) | (refine WL.val ?_ ?_ (Runs.nilCheck rfl) ?_; rfl; rfl) | (refine WL.val ?_ ?_ (Runs.pickT rfl rfl) ?_; rfl; rfl) | (refine WL.val ?_ ?_ (Runs.pickF rfl rfl) ?_; rfl; rfl) | (refine WL.val ?_ ?_ (Runs.len rfl sl22) ?_; rfl; rfl) | (refine WL.val ?_ ?_ (Runs.len rfl sl23) ?_; rfl; rfl) | (refine WL.val ?_ ?_ (Runs.len rfl sl24) ?_; rfl; rfl) | (refine WL.val ?_ ?_ (Runs.len rfl sl26) ?_; rfl; rfl) | (refine WL.val ?_ ?_ (Runs.len rfl sl27) ?_; rfl; rfl) | (refine WL.val ?_ ?_ (Runs.len rfl sl48) ?_; rfl; rfl) | (refine WL.val ?_ ?_ (Runs.len rfl sl60) ?_; rfl; rfl) | (refine WL.pass ?_ ?_ ?_; rfl; rfl))
    refine WL.val rfl rfl (Runs.eqlS rfl rfl (r := true) (by simp)) ?_
    repeat (first | (refine WL.val ?_ ?_ (Runs.move rfl) ?_; rfl; rfl) | (refine WL.val ?_ ?_ (Runs.assign rfl) ?_; rfl; rfl) | (refine WL.val ?_ ?_ (Runs.extract rfl rfl) ?_; rfl; rfl) | (refine WL.val ?_ ?_ (Runs.nilCheck rfl) ?_; rfl; rfl) | (refine WL.val ?_ ?_ (Runs.pickT rfl rfl) ?_; rfl; rfl) | (refine WL.val ?_ ?_ (Runs.pickF rfl rfl) ?_; rfl; rfl) | (refine WL.val ?_ ?_ (Runs.len rfl sl22) ?_; rfl; rfl) | (refine WL.val ?_ ?_ (Runs.len rfl sl23) ?_; rfl; rfl) | (refine WL.val ?_ ?_ (Runs.len rfl sl24) ?_; rfl; rfl) | (refine WL.val ?_ ?_ (Runs.len rfl sl26) ?_; rfl; rfl) | (refine WL.val ?_ ?_ (Runs.len rfl sl27) ?_; rfl; rfl) | (refine WL.val ?_ ?_ (Runs.len rfl sl48) ?_; rfl; rfl) | (refine WL.val ?_ ?_ (Runs.len rfl sl60) ?_; rfl; rfl) | (refine WL.pass ?_ ?_ ?_; rfl; rfl))
    refine WL.val rfl rfl (Runs.eqlB rfl rfl Ybad.underlying4 (r := true) (by simp)) ?_
    repeat (first | (refine WL.val ?_ ?_ (Runs.move rfl) ?_; rfl; rfl) | (refine WL.val ?_ ?_ (Runs.assign rfl) ?_; rfl; rfl) | (refine WL.val ?_ ?_ (Runs.extract rfl rfl) ?_; rfl; rfl) | (refine WL.val ?_ ?_ (Runs.nilCheck rfl) ?_; rfl; rfl) | (refine WL.val ?_ ?_ (Runs.pickT rfl rfl) ?_; rfl; rfl) | (refine WL.val ?_ ?_ (Runs.pickF rfl rfl) ?_; rfl; rfl) | (refine WL.val ?_ ?_ (Runs.len rfl sl22) ?_; rfl; rfl) | (refine WL.val ?_ ?_ (Runs.len rfl sl23) ?_; rfl; rfl) | (refine WL.val ?_ ?_ (Runs.len rfl sl24) ?_; rfl; rfl) | (refine WL.val ?_ ?_ (Runs.len rfl sl26) ?_; rfl; rfl) | (refine WL.val ?_ ?_ (Runs.len rfl sl27) ?_; rfl; rfl) | (refine WL.val ?_ ?_ (Runs.len rfl sl48) ?_; rfl; rfl) | (refine WL.val ?_ ?_ (Runs.len rfl sl60) ?_; rfl; rfl) | (refine WL.pass ?_ ?_ ?_; rfl; rfl))
    refine WL.val rfl rfl (Runs.fld rfl fl57_0) ?_
    refine WL.val rfl rfl (Runs.fld rfl fl53_0) ?_
    refine WL.val rfl rfl (Runs.load rfl na32 (by rw [cell_of f2]; rfl)) ?_
    repeat (first | (refine WL.val ?_ ?_ (Runs.move rfl) ?_; rfl; rfl) | (refine WL.val ?_ ?_ (Runs.assign rfl) ?_; rfl; rfl) | (refine WL.val ?_ ?_ (Runs.extract rfl rfl) ?_; rfl; rfl) | (refine WL.val ?_ ?_ (Runs.nilCheck rfl) ?_; rfl; rfl) | (refine WL.val ?_ ?_ (Runs.pickT rfl rfl) ?_; rfl; rfl) | (refine WL.val ?_ ?_ (Runs.pickF rfl rfl) ?_; rfl; rfl) | (refine WL.val ?_ ?_ (Runs.len rfl sl22) ?_; rfl; rfl) | (refine WL.val ?_ ?_ (Runs.len rfl sl23) ?_; rfl; rfl) | (refine WL.val ?_ ?_ (Runs.len rfl sl24) ?_; rfl; rfl) | (refine WL.val ?_ ?_ (Runs.len rfl sl26) ?_; rfl; rfl) | (refine WL.val ?_ ?_ (Runs.len rfl sl27) ?_; rfl; rfl) | (refine WL.val ?_ ?_ (Runs.len rfl sl48) ?_; rfl; rfl) | (refine WL.val ?_ ?_ (Runs.len rfl sl60) ?_; rfl; rfl) | (refine WL.pass ?_ ?_ ?_; rfl; rfl))
    refine WL.val rfl rfl (Runs.fld rfl fl34_1) ?_
    refine WL.val rfl rfl (Runs.load rfl na26 (by rw [cell_of f0]; rfl)) ?_
    repeat (first | (refine WL.val ?_ ?_ (Runs.move rfl) ?_; rfl; rfl) | (refine WL.val ?_ ?_ (Runs.assign rfl) ?_; rfl; rfl) | (refine WL.val ?_ ?_ (Runs.extract rfl rfl) ?_; rfl; rfl) | (refine WL.val ?_ ?_ (Runs.nilCheck rfl) ?_; rfl; rfl) | (refine WL.val ?_ ?_ (Runs.pickT rfl rfl) ?_; rfl; rfl) | (refine WL.val ?_ ?_ (Runs.pickF rfl rfl) ?_; rfl; rfl) | (refine WL.val ?_ ?_ (Runs.len rfl sl22) ?_; rfl; rfl) | (refine WL.val ?_ ?_ (Runs.len rfl sl23) ?_; rfl; rfl) | (refine WL.val ?_ ?_ (Runs.len rfl sl24) ?_; rfl; rfl) | (refine WL.val ?_ ?_ (Runs.len rfl sl26) ?_; rfl; rfl) | (refine WL.val ?_ ?_ (Runs.len rfl sl27) ?_; rfl; rfl) | (refine WL.val ?_ ?_ (Runs.len rfl sl48) ?_; rfl; rfl) | (refine WL.val ?_ ?_ (Runs.len rfl sl60) ?_; rfl; rfl) | (refine WL.pass ?_ ?_ ?_; rfl; rfl))
    refine WL.call rfl rfl (RunsC.call rfl en9) (same_any b1 b3 mr ((n + 63) / 64) _ w8 (by omega) hW3 (hs7.up hB8) (hk7.up hB8)) ?_
    rintro e w9 ⟨rfl, hB9⟩
    refine ⟨_, rfl, ?_⟩
    have g1 := below_heap hB9 (lt_of_heap f1) f1
    have g2 := below_heap hB9 (lt_of_heap f2) f2
    repeat (first | (refine WL.val ?_ ?_ (Runs.move rfl) ?_; rfl; rfl) | (refine WL.val ?_ ?_ (Runs.assign rfl) ?_; rfl; rfl) | (refine WL.val ?_ ?_ (Runs.extract rfl rfl) ?_; rfl; rfl) | (refine WL.val ?_ ?_ (Runs.nilCheck rfl) ?_; rfl; rfl) | (refine WL.val ?_ ?_ (Runs.pickT rfl rfl) ?_; rfl; rfl) | (refine WL.val ?_ ?_ (Runs.pickF rfl rfl) ?_; rfl; rfl) | (refine WL.val ?_ ?_ (Runs.len rfl sl22) ?_; rfl; rfl) | (refine WL.val ?_ ?_ (Runs.len rfl sl23) ?_; rfl; rfl) | (refine WL.val ?_ ?_ (Runs.len rfl sl24) ?_; rfl; rfl) | (refine WL.val ?_ ?_ (Runs.len rfl sl26) ?_; rfl; rfl) | (refine WL.val ?_ ?_ (Runs.len rfl sl27) ?_; rfl; rfl) | (refine WL.val ?_ ?_ (Runs.len rfl sl48) ?_; rfl; rfl) | (refine WL.val ?_ ?_ (Runs.len rfl sl60) ?_; rfl; rfl) | (refine WL.pass ?_ ?_ ?_; rfl; rfl))
    refine WL.val rfl rfl (Runs.fld rfl fl57_1) ?_
    refine WL.val rfl rfl (Runs.fld rfl fl53_0) ?_
    refine WL.val rfl rfl (Runs.load rfl na32 (by rw [cell_of g2]; rfl)) ?_
    repeat (first | (refine WL.val ?_ ?_ (Runs.move rfl) ?_; rfl; rfl) | (refine WL.val ?_ ?_ (Runs.assign rfl) ?_; rfl; rfl) | (refine WL.val ?_ ?_ (Runs.extract rfl rfl) ?_; rfl; rfl) | (refine WL.val ?_ ?_ (Runs.nilCheck rfl) ?_; rfl; rfl) | (refine WL.val ?_ ?_ (Runs.pickT rfl rfl) ?_; rfl; rfl) | (refine WL.val ?_ ?_ (Runs.pickF rfl rfl) ?_; rfl; rfl) | (refine WL.val ?_ ?_ (Runs.len rfl sl22) ?_; rfl; rfl) | (refine WL.val ?_ ?_ (Runs.len rfl sl23) ?_; rfl; rfl) | (refine WL.val ?_ ?_ (Runs.len rfl sl24) ?_; rfl; rfl) | (refine WL.val ?_ ?_ (Runs.len rfl sl26) ?_; rfl; rfl) | (refine WL.val ?_ ?_ (Runs.len rfl sl27) ?_; rfl; rfl) | (refine WL.val ?_ ?_ (Runs.len rfl sl48) ?_; rfl; rfl) | (refine WL.val ?_ ?_ (Runs.len rfl sl60) ?_; rfl; rfl) | (refine WL.pass ?_ ?_ ?_; rfl; rfl))
    refine WL.val rfl rfl (Runs.fld rfl fl34_1) ?_
    refine WL.val rfl rfl (Runs.load rfl na26 (by rw [cell_of g1]; rfl)) ?_
    repeat (first | (refine WL.val ?_ ?_ (Runs.move rfl) ?_; rfl; rfl) | (refine WL.val ?_ ?_ (Runs.assign rfl) ?_; rfl; rfl) | (refine WL.val ?_ ?_ (Runs.extract rfl rfl) ?_; rfl; rfl) | (refine WL.val ?_ ?_ (Runs.nilCheck rfl) ?_; rfl; rfl) | (refine WL.val ?_ ?_ (Runs.pickT rfl rfl) ?_; rfl; rfl) | (refine WL.val ?_ ?_ (Runs.pickF rfl rfl) ?_; rfl; rfl) | (refine WL.val ?_ ?_ (Runs.len rfl sl22) ?_; rfl; rfl) | (refine WL.val ?_ ?_ (Runs.len rfl sl23) ?_; rfl; rfl) | (refine WL.val ?_ ?_ (Runs.len rfl sl24) ?_; rfl; rfl) | (refine WL.val ?_ ?_ (Runs.len rfl sl26) ?_; rfl; rfl) | (refine WL.val ?_ ?_ (Runs.len rfl sl27) ?_; rfl; rfl) | (refine WL.val ?_ ?_ (Runs.len rfl sl48) ?_; rfl; rfl) | (refine WL.val ?_ ?_ (Runs.len rfl sl60) ?_; rfl; rfl) | (refine WL.pass ?_ ?_ ?_; rfl; rfl))
    refine WL.call rfl rfl (RunsC.call rfl en9) (same_any c1 c3 mw ((n + 63) / 64) _ w9 (by omega) hW3 ((ht7.up hB8).up hB9) ((hl7.up hB8).up hB9)) ?_
    rintro e w10 ⟨rfl, hB10⟩
    refine ⟨_, rfl, ?_⟩
    have k2 := below_heap hB10 (lt_of_heap g2) g2
    have k3 := below_heap hB10 (lt_of_heap (below_heap hB9 (lt_of_heap f3) f3)) (below_heap hB9 (lt_of_heap f3) f3)
    repeat (first | (refine WL.val ?_ ?_ (Runs.move rfl) ?_; rfl; rfl) | (refine WL.val ?_ ?_ (Runs.assign rfl) ?_; rfl; rfl) | (refine WL.val ?_ ?_ (Runs.extract rfl rfl) ?_; rfl; rfl) | (refine WL.val ?_ ?_ (Runs.nilCheck rfl) ?_; rfl; rfl) | (refine WL.val ?_ ?_ (Runs.pickT rfl rfl) ?_; rfl; rfl) | (refine WL.val ?_ ?_ (Runs.pickF rfl rfl) ?_; rfl; rfl) | (refine WL.val ?_ ?_ (Runs.len rfl sl22) ?_; rfl; rfl) | (refine WL.val ?_ ?_ (Runs.len rfl sl23) ?_; rfl; rfl) | (refine WL.val ?_ ?_ (Runs.len rfl sl24) ?_; rfl; rfl) | (refine WL.val ?_ ?_ (Runs.len rfl sl26) ?_; rfl; rfl) | (refine WL.val ?_ ?_ (Runs.len rfl sl27) ?_; rfl; rfl) | (refine WL.val ?_ ?_ (Runs.len rfl sl48) ?_; rfl; rfl) | (refine WL.val ?_ ?_ (Runs.len rfl sl60) ?_; rfl; rfl) | (refine WL.pass ?_ ?_ ?_; rfl; rfl))
    refine WL.val rfl rfl (Runs.fld rfl fl57_0) ?_
    refine WL.val rfl rfl (Runs.fld rfl fl53_1) ?_
    refine WL.val rfl rfl (Runs.load rfl na9 (by rw [cell_of k2]; rfl)) ?_
    repeat (first | (refine WL.val ?_ ?_ (Runs.move rfl) ?_; rfl; rfl) | (refine WL.val ?_ ?_ (Runs.assign rfl) ?_; rfl; rfl) | (refine WL.val ?_ ?_ (Runs.extract rfl rfl) ?_; rfl; rfl) | (refine WL.val ?_ ?_ (Runs.nilCheck rfl) ?_; rfl; rfl) | (refine WL.val ?_ ?_ (Runs.pickT rfl rfl) ?_; rfl; rfl) | (refine WL.val ?_ ?_ (Runs.pickF rfl rfl) ?_; rfl; rfl) | (refine WL.val ?_ ?_ (Runs.len rfl sl22) ?_; rfl; rfl) | (refine WL.val ?_ ?_ (Runs.len rfl sl23) ?_; rfl; rfl) | (refine WL.val ?_ ?_ (Runs.len rfl sl24) ?_; rfl; rfl) | (refine WL.val ?_ ?_ (Runs.len rfl sl26) ?_; rfl; rfl) | (refine WL.val ?_ ?_ (Runs.len rfl sl27) ?_; rfl; rfl) | (refine WL.val ?_ ?_ (Runs.len rfl sl48) ?_; rfl; rfl) | (refine WL.val ?_ ?_ (Runs.len rfl sl60) ?_; rfl; rfl) | (refine WL.pass ?_ ?_ ?_; rfl; rfl))
    refine WL.val rfl rfl (Runs.eqlS rfl rfl (r := true) (by simp)) ?_
    repeat (first | (refine WL.val ?_ ?_ (Runs.move rfl) ?_; rfl; rfl) | (refine WL.val ?_ ?_ (Runs.assign rfl) ?_; rfl; rfl) | (refine WL.val ?_ ?_ (Runs.extract rfl rfl) ?_; rfl; rfl) | (refine WL.val ?_ ?_ (Runs.nilCheck rfl) ?_; rfl; rfl) | (refine WL.val ?_ ?_ (Runs.pickT rfl rfl) ?_; rfl; rfl) | (refine WL.val ?_ ?_ (Runs.pickF rfl rfl) ?_; rfl; rfl) | (refine WL.val ?_ ?_ (Runs.len rfl sl22) ?_; rfl; rfl) | (refine WL.val ?_ ?_ (Runs.len rfl sl23) ?_; rfl; rfl) | (refine WL.val ?_ ?_ (Runs.len rfl sl24) ?_; rfl; rfl) | (refine WL.val ?_ ?_ (Runs.len rfl sl26) ?_; rfl; rfl) | (refine WL.val ?_ ?_ (Runs.len rfl sl27) ?_; rfl; rfl) | (refine WL.val ?_ ?_ (Runs.len rfl sl48) ?_; rfl; rfl) | (refine WL.val ?_ ?_ (Runs.len rfl sl60) ?_; rfl; rfl) | (refine WL.pass ?_ ?_ ?_; rfl; rfl))
    refine WL.val rfl rfl (Runs.fld rfl fl57_1) ?_
    refine WL.val rfl rfl (Runs.fld rfl fl53_1) ?_
    refine WL.val rfl rfl (Runs.load rfl na9 (by rw [cell_of k2]; rfl)) ?_
    repeat (first | (refine WL.val ?_ ?_ (Runs.move rfl) ?_; rfl; rfl) | (refine WL.val ?_ ?_ (Runs.assign rfl) ?_; rfl; rfl) | (refine WL.val ?_ ?_ (Runs.extract rfl rfl) ?_; rfl; rfl) | (refine WL.val ?_ ?_ (Runs.nilCheck rfl) ?_; rfl; rfl) | (refine WL.val ?_ ?_ (Runs.pickT rfl rfl) ?_; rfl; rfl) | (refine WL.val ?_ ?_ (Runs.pickF rfl rfl) ?_; rfl; rfl) | (refine WL.val ?_ ?_ (Runs.len rfl sl22) ?_; rfl; rfl) | (refine WL.val ?_ ?_ (Runs.len rfl sl23) ?_; rfl; rfl) | (refine WL.val ?_ ?_ (Runs.len rfl sl24) ?_; rfl; rfl) | (refine WL.val ?_ ?_ (Runs.len rfl sl26) ?_; rfl; rfl) | (refine WL.val ?_ ?_ (Runs.len rfl sl27) ?_; rfl; rfl) | (refine WL.val ?_ ?_ (Runs.len rfl sl48) ?_; rfl; rfl) | (refine WL.val ?_ ?_ (Runs.len rfl sl60) ?_; rfl; rfl) | (refine WL.pass ?_ ?_ ?_; rfl; rfl))
    refine WL.val rfl rfl (Runs.eqlS rfl rfl (r := true) (by simp)) ?_
    repeat (first | (refine WL.val ?_ ?_ (Runs.move rfl) ?_; rfl; rfl) | (refine WL.val ?_ ?_ (Runs.assign rfl) ?_; rfl; rfl) | (refine WL.val ?_ ?_ (Runs.extract rfl rfl) ?_; rfl; rfl) | (refine WL.val ?_ ?_ (Runs.nilCheck rfl) ?_; rfl; rfl) | (refine WL.val ?_ ?_ (Runs.pickT rfl rfl) ?_; rfl; rfl) | (refine WL.val ?_ ?_ (Runs.pickF rfl rfl) ?_; rfl; rfl) | (refine WL.val ?_ ?_ (Runs.len rfl sl22) ?_; rfl; rfl) | (refine WL.val ?_ ?_ (Runs.len rfl sl23) ?_; rfl; rfl) | (refine WL.val ?_ ?_ (Runs.len rfl sl24) ?_; rfl; rfl) | (refine WL.val ?_ ?_ (Runs.len rfl sl26) ?_; rfl; rfl) | (refine WL.val ?_ ?_ (Runs.len rfl sl27) ?_; rfl; rfl) | (refine WL.val ?_ ?_ (Runs.len rfl sl48) ?_; rfl; rfl) | (refine WL.val ?_ ?_ (Runs.len rfl sl60) ?_; rfl; rfl) | (refine WL.pass ?_ ?_ ?_; rfl; rfl))
    refine WL.val rfl rfl (Runs.fld rfl fl44_3) ?_
    refine WL.val rfl rfl (Runs.load rfl na32 (by rw [cell_of k3]; rfl)) ?_
    refine WL.val rfl rfl (Runs.eqlPN rfl pt32 (r := true) rfl) ?_
    repeat (first | (refine WL.val ?_ ?_ (Runs.move rfl) ?_; rfl; rfl) | (refine WL.val ?_ ?_ (Runs.assign rfl) ?_; rfl; rfl) | (refine WL.val ?_ ?_ (Runs.extract rfl rfl) ?_; rfl; rfl) | (refine WL.val ?_ ?_ (Runs.nilCheck rfl) ?_; rfl; rfl) | (refine WL.val ?_ ?_ (Runs.pickT rfl rfl) ?_; rfl; rfl) | (refine WL.val ?_ ?_ (Runs.pickF rfl rfl) ?_; rfl; rfl) | (refine WL.val ?_ ?_ (Runs.len rfl sl22) ?_; rfl; rfl) | (refine WL.val ?_ ?_ (Runs.len rfl sl23) ?_; rfl; rfl) | (refine WL.val ?_ ?_ (Runs.len rfl sl24) ?_; rfl; rfl) | (refine WL.val ?_ ?_ (Runs.len rfl sl26) ?_; rfl; rfl) | (refine WL.val ?_ ?_ (Runs.len rfl sl27) ?_; rfl; rfl) | (refine WL.val ?_ ?_ (Runs.len rfl sl48) ?_; rfl; rfl) | (refine WL.val ?_ ?_ (Runs.len rfl sl60) ?_; rfl; rfl) | (refine WL.pass ?_ ?_ ?_; rfl; rfl))
    refine WL.val rfl rfl (Runs.fld rfl fl44_2) ?_
    refine WL.val rfl rfl (Runs.load rfl na37 (by rw [cell_of k3]; rfl)) ?_
    refine WL.val rfl rfl (Runs.eqlNN rfl if37) ?_
    repeat (first | (refine WL.val ?_ ?_ (Runs.move rfl) ?_; rfl; rfl) | (refine WL.val ?_ ?_ (Runs.assign rfl) ?_; rfl; rfl) | (refine WL.val ?_ ?_ (Runs.extract rfl rfl) ?_; rfl; rfl) | (refine WL.val ?_ ?_ (Runs.nilCheck rfl) ?_; rfl; rfl) | (refine WL.val ?_ ?_ (Runs.pickT rfl rfl) ?_; rfl; rfl) | (refine WL.val ?_ ?_ (Runs.pickF rfl rfl) ?_; rfl; rfl) | (refine WL.val ?_ ?_ (Runs.len rfl sl22) ?_; rfl; rfl) | (refine WL.val ?_ ?_ (Runs.len rfl sl23) ?_; rfl; rfl) | (refine WL.val ?_ ?_ (Runs.len rfl sl24) ?_; rfl; rfl) | (refine WL.val ?_ ?_ (Runs.len rfl sl26) ?_; rfl; rfl) | (refine WL.val ?_ ?_ (Runs.len rfl sl27) ?_; rfl; rfl) | (refine WL.val ?_ ?_ (Runs.len rfl sl48) ?_; rfl; rfl) | (refine WL.val ?_ ?_ (Runs.len rfl sl60) ?_; rfl; rfl) | (refine WL.pass ?_ ?_ ?_; rfl; rfl))
    refine WL.nil ?_
    repeat (first | refine AtExit.thenRet ?_ | refine AtExit.thenExit ?_ | refine AtExit.blockRet ?_ | refine AtExit.blockEnd ?_ | refine AtExit.blockExit ?_ | (refine AtExit.blockPast ?_ ?_; rfl))
    refine AtExit.go ?_
    refine WC.ret ?_
    repeat (first | refine AtExit.thenRet ?_ | refine AtExit.thenExit ?_ | refine AtExit.blockRet ?_ | refine AtExit.blockEnd ?_ | refine AtExit.blockExit ?_ | (refine AtExit.blockPast ?_ ?_; rfl))
    exact post1 rfl rfl ⟨rfl, by rw [hnb]; exact Below.up (Below.up (Below.up hB17 hB8) hB9) hB10⟩
end Go.Proofs.YbulkgfagDoor
