/- The law itself. -/
import Derived.Test.YbulkgfauIxs
namespace Go.Proofs.Ybulkgfau
open Go Go.Fr Go.RowKit Go.Lib

/-- The kind's pointer. -/
def ekOf (B k : Nat) : Option Addr := if k % 3 = 1 then some ⟨B, 0, none⟩ else if k % 3 = 2 then some ⟨B + 1, 0, none⟩ else none
theorem ekOf_some (B k : Nat) : (ekOf B k).isSome = !decide (k % 3 = 0) := by
  unfold ekOf
  by_cases h1 : k % 3 = 1
  · rw [if_pos h1, dfalse (by omega)]; rfl
  · rw [if_neg h1]
    by_cases h2 : k % 3 = 2
    · rw [if_pos h2, dfalse (by omega)]; rfl
    · rw [if_neg h2, dtrue (by omega)]; rfl
def recOf (B : Nat) (sq dy : Nat → Int) (kd : Nat → Nat) (i : Nat) : Rc := ⟨sq i, dy i, ekOf B (kd i), i⟩

theorem Rw.there {w : World} {g : Nat} {l : List Rc} (h : Rw w g l) {i : Nat} (hi : i < l.length) : w.there g (0 + i * 5) 5 := by
  intro j hj
  obtain ⟨x, hx⟩ := get_some hi
  obtain ⟨v, hv⟩ : ∃ v, (enc x)[j]? = some v := ⟨_, List.getElem?_eq_getElem (by rw [enc_len]; exact hj)⟩
  exact ⟨by rw [h.cell hx hv]; rfl, h.frozen _⟩

theorem fill_step (R : Nat → Rc) (m k : Nat) (hk : k < m) : ((List.range k).map R ++ List.replicate (m - k) zeroRc).set k (R k) = (List.range (k + 1)).map R ++ List.replicate (m - (k + 1)) zeroRc := by
  rw [List.set_append_right _ _ (by simp), show m - k = (m - (k + 1)) + 1 from by omega, List.replicate_succ, List.range_succ]
  simp
theorem get_range (R : Nat → Rc) (m i : Nat) (hi : i < m) : ((List.range m).map R)[i]? = some (R i) := by simp [hi]
theorem range_step {sel : Nat → Bool} (k : Nat) : (List.range (k + 1)).filter sel = (List.range k).filter sel ++ (if sel k then [k] else []) := by
  rw [List.range_succ, List.filter_append, List.filter_cons, List.filter_nil]
theorem set_two (P S : List Nat) (z x : Nat) (i : Nat) (hi : i = P.length) : ((P ++ z :: x :: S).set (i + 1) z).set i x = P ++ x :: z :: S := by
  subst hi
  rw [List.set_append_right _ _ (by omega), show P.length + 1 - P.length = 1 from by omega, List.set_append_right _ _ (Nat.le_refl _), Nat.sub_self]
  rfl
theorem get_n (P : List Nat) (x : Nat) (S : List Nat) (i : Nat) (hi : i = P.length) : (P ++ x :: S)[i]? = some x := by subst hi; simp
theorem tmod3 (k : Nat) : ((k : Nat) : Int).tmod 3 = ((k % 3 : Nat) : Int) := by
  rw [Int.tmod_eq_emod_of_nonneg (by omega)]; omega

/-- The first records of the input, boxed one by one. -/
theorem three_cells {w : World} {b o i : Nat} {x y z : Value} (h0 : w.cell? ⟨b, o + i * 3 + 0, none⟩ = some x) (h1 : w.cell? ⟨b, o + i * 3 + 1, none⟩ = some y) (h2 : w.cell? ⟨b, o + i * 3 + 2, none⟩ = some z) :
    ∀ j v, [x, y, z][j]? = some v → w.cell? ⟨b, o + i * 3 + j, none⟩ = some v := by
  intro j v hv
  match j, hv with
  | 0, hv => rw [h0]; exact hv
  | 1, hv => rw [h1]; exact hv
  | 2, hv => rw [h2]; exact hv

set_option maxRecDepth 8000 in
set_option maxHeartbeats 4000000 in
theorem law_any (A : Option Addr) (m Ca : Nat) (after : Int) (sq dy : Nat → Int) (kd : Nat → Nat) (w : World) (hA : RecsAt w w.heap.size A m sq dy kd) (hdy : ∀ i, i < m → -9223372036854775808 ≤ dy i ∧ dy i ≤ 9223372036854775807)
    (haf : -9223372036854775808 ≤ after ∧ after ≤ 9223372036854775807) :
    Calls Yba.prog 3 #[.slice A m Ca, .int .i64 after] w fun e w' => e = .returned (.bool true) ∧ Below w.heap.size w w' := by
  refine calls_of Yba.func3 rfl Yba.ntmps3 rfl ?_
  refine WC.seq (WC.region ?_)
  repeat (first | (refine WL.val ?_ ?_ (Runs.move rfl) ?_; rfl; rfl) | (refine WL.val ?_ ?_ (Runs.assign rfl) ?_; rfl; rfl) | (refine WL.val ?_ ?_ (Runs.extract rfl rfl) ?_; rfl; rfl) | (refine WL.val ?_ ?_ (Runs.nilCheck rfl) ?_; rfl; rfl) | (refine WL.val ?_ ?_ (Runs.pickT rfl rfl) ?_; rfl; rfl) | (refine WL.val ?_ ?_ (Runs.pickF rfl rfl) ?_; rfl; rfl) | (refine WL.val ?_ ?_ (Runs.len rfl sl22) ?_; rfl; rfl) | (refine WL.val ?_ ?_ (Runs.len rfl sl27) ?_; rfl; rfl) | (refine WL.val ?_ ?_ (Runs.len rfl sl37) ?_; rfl; rfl) | (refine WL.pass ?_ ?_ ?_; rfl; rfl))
  refine WL.nil ?_
  repeat (first | refine AtExit.thenRet ?_ | refine AtExit.thenExit ?_ | refine AtExit.blockRet ?_ | refine AtExit.blockEnd ?_ | refine AtExit.blockExit ?_ | (refine AtExit.blockPast ?_ ?_; rfl))
  refine AtExit.go ?_
  refine WC.seq ?_
  refine WC.seq (WC.region ?_)
  repeat (first | (refine WL.val ?_ ?_ (Runs.move rfl) ?_; rfl; rfl) | (refine WL.val ?_ ?_ (Runs.assign rfl) ?_; rfl; rfl) | (refine WL.val ?_ ?_ (Runs.extract rfl rfl) ?_; rfl; rfl) | (refine WL.val ?_ ?_ (Runs.nilCheck rfl) ?_; rfl; rfl) | (refine WL.val ?_ ?_ (Runs.pickT rfl rfl) ?_; rfl; rfl) | (refine WL.val ?_ ?_ (Runs.pickF rfl rfl) ?_; rfl; rfl) | (refine WL.val ?_ ?_ (Runs.len rfl sl22) ?_; rfl; rfl) | (refine WL.val ?_ ?_ (Runs.len rfl sl27) ?_; rfl; rfl) | (refine WL.val ?_ ?_ (Runs.len rfl sl37) ?_; rfl; rfl) | (refine WL.pass ?_ ?_ ?_; rfl; rfl))
  by_cases hm1 : 4096 < m
  · refine WL.val rfl rfl (Runs.gtr rfl rfl (r := true) (dtrue (by omega))) ?_
    refine WL.nil ?_
    repeat (first | refine AtExit.thenRet ?_ | refine AtExit.thenExit ?_ | refine AtExit.blockRet ?_ | refine AtExit.blockEnd ?_ | refine AtExit.blockExit ?_ | (refine AtExit.blockPast ?_ ?_; rfl))
    refine AtExit.go ?_
    refine WC.condT rfl ?_
    refine WC.seq (WC.region ?_)
    repeat (first | (refine WL.val ?_ ?_ (Runs.move rfl) ?_; rfl; rfl) | (refine WL.val ?_ ?_ (Runs.assign rfl) ?_; rfl; rfl) | (refine WL.val ?_ ?_ (Runs.extract rfl rfl) ?_; rfl; rfl) | (refine WL.val ?_ ?_ (Runs.nilCheck rfl) ?_; rfl; rfl) | (refine WL.val ?_ ?_ (Runs.pickT rfl rfl) ?_; rfl; rfl) | (refine WL.val ?_ ?_ (Runs.pickF rfl rfl) ?_; rfl; rfl) | (refine WL.val ?_ ?_ (Runs.len rfl sl22) ?_; rfl; rfl) | (refine WL.val ?_ ?_ (Runs.len rfl sl27) ?_; rfl; rfl) | (refine WL.val ?_ ?_ (Runs.len rfl sl37) ?_; rfl; rfl) | (refine WL.pass ?_ ?_ ?_; rfl; rfl))
    refine WL.nil ?_
    repeat (first | refine AtExit.thenRet ?_ | refine AtExit.thenExit ?_ | refine AtExit.blockRet ?_ | refine AtExit.blockEnd ?_ | refine AtExit.blockExit ?_ | (refine AtExit.blockPast ?_ ?_; rfl))
    refine AtExit.go ?_
    refine WC.ret ?_
    repeat (first | refine AtExit.thenRet ?_ | refine AtExit.thenExit ?_ | refine AtExit.blockRet ?_ | refine AtExit.blockEnd ?_ | refine AtExit.blockExit ?_ | (refine AtExit.blockPast ?_ ?_; rfl))
    exact post1 rfl rfl ⟨rfl, Below.refl _ _⟩
  refine WL.val rfl rfl (Runs.gtr rfl rfl (r := false) (dfalse (by omega))) ?_
  refine WL.nil ?_
  repeat (first | refine AtExit.thenRet ?_ | refine AtExit.thenExit ?_ | refine AtExit.blockRet ?_ | refine AtExit.blockEnd ?_ | refine AtExit.blockExit ?_ | (refine AtExit.blockPast ?_ ?_; rfl))
  refine AtExit.go ?_
  refine WC.condF rfl ?_
  refine WC.skip ?_
  repeat (first | refine AtExit.thenRet ?_ | refine AtExit.thenExit ?_ | refine AtExit.blockRet ?_ | refine AtExit.blockEnd ?_ | refine AtExit.blockExit ?_ | (refine AtExit.blockPast ?_ ?_; rfl))
  refine AtExit.go ?_
  have hm : m ≤ 4096 := by omega
  refine WC.seq (WC.region ?_)
  refine WL.val rfl rfl (Runs.build (cs := #[.string ⟨#[112, 111, 115, 116, 105, 110, 103]⟩, .string ⟨#[101, 110, 116, 114, 105, 101, 115]⟩, .string ⟨#[112, 111, 115, 116, 105, 110, 103, 115, 46, 99, 115, 118]⟩, .nilFunc]) rfl (by kernel_rfl)) ?_
  refine WL.val rfl rfl (Runs.box rfl) ?_
  repeat (first | (refine WL.val ?_ ?_ (Runs.move rfl) ?_; rfl; rfl) | (refine WL.val ?_ ?_ (Runs.assign rfl) ?_; rfl; rfl) | (refine WL.val ?_ ?_ (Runs.extract rfl rfl) ?_; rfl; rfl) | (refine WL.val ?_ ?_ (Runs.nilCheck rfl) ?_; rfl; rfl) | (refine WL.val ?_ ?_ (Runs.pickT rfl rfl) ?_; rfl; rfl) | (refine WL.val ?_ ?_ (Runs.pickF rfl rfl) ?_; rfl; rfl) | (refine WL.val ?_ ?_ (Runs.len rfl sl22) ?_; rfl; rfl) | (refine WL.val ?_ ?_ (Runs.len rfl sl27) ?_; rfl; rfl) | (refine WL.val ?_ ?_ (Runs.len rfl sl37) ?_; rfl; rfl) | (refine WL.pass ?_ ?_ ?_; rfl; rfl))
  refine WL.nil ?_
  repeat (first | refine AtExit.thenRet ?_ | refine AtExit.thenExit ?_ | refine AtExit.blockRet ?_ | refine AtExit.blockEnd ?_ | refine AtExit.blockExit ?_ | (refine AtExit.blockPast ?_ ?_; rfl))
  refine AtExit.go ?_
  refine WC.seq (WC.region ?_)
  refine WL.val rfl rfl (Runs.build (cs := #[.string ⟨#[111, 114, 100, 101, 114]⟩, .string ⟨#[111, 114, 100, 101, 114, 115]⟩, .string ⟨#[111, 114, 100, 101, 114, 115, 46, 99, 115, 118]⟩, .nilFunc]) rfl (by kernel_rfl)) ?_
  refine WL.val rfl rfl (Runs.box rfl) ?_
  repeat (first | (refine WL.val ?_ ?_ (Runs.move rfl) ?_; rfl; rfl) | (refine WL.val ?_ ?_ (Runs.assign rfl) ?_; rfl; rfl) | (refine WL.val ?_ ?_ (Runs.extract rfl rfl) ?_; rfl; rfl) | (refine WL.val ?_ ?_ (Runs.nilCheck rfl) ?_; rfl; rfl) | (refine WL.val ?_ ?_ (Runs.pickT rfl rfl) ?_; rfl; rfl) | (refine WL.val ?_ ?_ (Runs.pickF rfl rfl) ?_; rfl; rfl) | (refine WL.val ?_ ?_ (Runs.len rfl sl22) ?_; rfl; rfl) | (refine WL.val ?_ ?_ (Runs.len rfl sl27) ?_; rfl; rfl) | (refine WL.val ?_ ?_ (Runs.len rfl sl37) ?_; rfl; rfl) | (refine WL.pass ?_ ?_ ?_; rfl; rfl))
  refine WL.nil ?_
  repeat (first | refine AtExit.thenRet ?_ | refine AtExit.thenExit ?_ | refine AtExit.blockRet ?_ | refine AtExit.blockEnd ?_ | refine AtExit.blockExit ?_ | (refine AtExit.blockPast ?_ ?_; rfl))
  refine AtExit.go ?_
  generalize hO1 : Obj.cells (Value.agg #[.string ⟨#[112, 111, 115, 116, 105, 110, 103]⟩, .string ⟨#[101, 110, 116, 114, 105, 101, 115]⟩, .string ⟨#[112, 111, 115, 116, 105, 110, 103, 115, 46, 99, 115, 118]⟩, .nilFunc]).cells 26 = O1
  generalize hO2 : Obj.cells (Value.agg #[.string ⟨#[111, 114, 100, 101, 114]⟩, .string ⟨#[111, 114, 100, 101, 114, 115]⟩, .string ⟨#[111, 114, 100, 101, 114, 115, 46, 99, 115, 118]⟩, .nilFunc]).cells 26 = O2
  have q0 := (two_new w O1 O2).2.2
  have qs : ((w.alloc O1).alloc O2).heap.size = w.heap.size + 2 := by rw [size_new, size_new]
  rw [size_new]
  generalize (w.alloc O1).alloc O2 = w1 at q0 qs ⊢
  clear hO1 hO2 O1 O2
  obtain ⟨B, hB⟩ : ∃ B, B = w.heap.size := ⟨_, rfl⟩
  rw [← hB] at q0 qs hA ⊢
  refine WC.seq (WC.region ?_)
  repeat (first | (refine WL.val ?_ ?_ (Runs.move rfl) ?_; rfl; rfl) | (refine WL.val ?_ ?_ (Runs.assign rfl) ?_; rfl; rfl) | (refine WL.val ?_ ?_ (Runs.extract rfl rfl) ?_; rfl; rfl) | (refine WL.val ?_ ?_ (Runs.nilCheck rfl) ?_; rfl; rfl) | (refine WL.val ?_ ?_ (Runs.pickT rfl rfl) ?_; rfl; rfl) | (refine WL.val ?_ ?_ (Runs.pickF rfl rfl) ?_; rfl; rfl) | (refine WL.val ?_ ?_ (Runs.len rfl sl22) ?_; rfl; rfl) | (refine WL.val ?_ ?_ (Runs.len rfl sl27) ?_; rfl; rfl) | (refine WL.val ?_ ?_ (Runs.len rfl sl37) ?_; rfl; rfl) | (refine WL.pass ?_ ?_ ?_; rfl; rfl))
  refine WL.val rfl rfl (Runs.makeK rfl rfl Yba.underlying27 in36 (by omega) (by omega)) ?_
  repeat (first | (refine WL.val ?_ ?_ (Runs.move rfl) ?_; rfl; rfl) | (refine WL.val ?_ ?_ (Runs.assign rfl) ?_; rfl; rfl) | (refine WL.val ?_ ?_ (Runs.extract rfl rfl) ?_; rfl; rfl) | (refine WL.val ?_ ?_ (Runs.nilCheck rfl) ?_; rfl; rfl) | (refine WL.val ?_ ?_ (Runs.pickT rfl rfl) ?_; rfl; rfl) | (refine WL.val ?_ ?_ (Runs.pickF rfl rfl) ?_; rfl; rfl) | (refine WL.val ?_ ?_ (Runs.len rfl sl22) ?_; rfl; rfl) | (refine WL.val ?_ ?_ (Runs.len rfl sl27) ?_; rfl; rfl) | (refine WL.val ?_ ?_ (Runs.len rfl sl37) ?_; rfl; rfl) | (refine WL.pass ?_ ?_ ?_; rfl; rfl))
  refine WL.nil ?_
  repeat (first | refine AtExit.thenRet ?_ | refine AtExit.thenExit ?_ | refine AtExit.blockRet ?_ | refine AtExit.blockEnd ?_ | refine AtExit.blockExit ?_ | (refine AtExit.blockPast ?_ ?_; rfl))
  refine AtExit.go ?_
  rw [qs]
  generalize hR : recOf B sq dy kd = R
  have start : Below B w (w1.alloc (.cells (madeCells (Value.agg #[.int .i64 0, .int .u64 0, .int .i64 0, .pointer none, .pointer none]).cells (m * 5)) 36)) ∧
      Rw (w1.alloc (.cells (madeCells (Value.agg #[.int .i64 0, .int .u64 0, .int .i64 0, .pointer none, .pointer none]).cells (m * 5)) 36)) (B + 2) ((List.range 0).map R ++ List.replicate (m - 0) zeroRc) := by
    refine ⟨q0.trans (below_new w1 _ (by omega)), ?_⟩
    have := Rw.made w1 m
    rw [qs] at this
    simpa using this
  generalize w1.alloc _ = w2 at start ⊢
  refine WC.cut (α := Unit) (fun _ => [(0, .slice A m Ca), (1, .int .i64 after), (7, .slice (some ⟨B + 2, 0, none⟩) m m)]) (fun _ w' => Below B w w' ∧ Rw w' (B + 2) ((List.range m).map R)) ?_ ?_
  · refine WC.seq (WC.region ?_)
    repeat (first | (refine WL.val ?_ ?_ (Runs.move rfl) ?_; rfl; rfl) | (refine WL.val ?_ ?_ (Runs.assign rfl) ?_; rfl; rfl) | (refine WL.val ?_ ?_ (Runs.extract rfl rfl) ?_; rfl; rfl) | (refine WL.val ?_ ?_ (Runs.nilCheck rfl) ?_; rfl; rfl) | (refine WL.val ?_ ?_ (Runs.pickT rfl rfl) ?_; rfl; rfl) | (refine WL.val ?_ ?_ (Runs.pickF rfl rfl) ?_; rfl; rfl) | (refine WL.val ?_ ?_ (Runs.len rfl sl22) ?_; rfl; rfl) | (refine WL.val ?_ ?_ (Runs.len rfl sl27) ?_; rfl; rfl) | (refine WL.val ?_ ?_ (Runs.len rfl sl37) ?_; rfl; rfl) | (refine WL.pass ?_ ?_ ?_; rfl; rfl))
    refine WL.nil ?_
    repeat (first | refine AtExit.thenRet ?_ | refine AtExit.thenExit ?_ | refine AtExit.blockRet ?_ | refine AtExit.blockEnd ?_ | refine AtExit.blockExit ?_ | (refine AtExit.blockPast ?_ ?_; rfl))
    refine AtExit.go ?_
    refine WC.block ?_
    refine WC.loop (α := Nat) (fun k => [(0, .slice A m Ca), (1, .int .i64 after), (5, .pointer (some ⟨B, 0, none⟩)), (6, .pointer (some ⟨B + 1, 0, none⟩)), (7, .slice (some ⟨B + 2, 0, none⟩) m m), (32, .slice A m Ca), (33, .int .i64 (m : Int)), (34, .int .i64 (k : Int))])
      (fun k w' => k ≤ m ∧ Below B w w' ∧ Rw w' (B + 2) ((List.range k).map R ++ List.replicate (m - k) zeroRc)) (fun k => m - k) 0 (by repeat (first | exact Sub.nil _ | refine Sub.cons rfl ?_)) ⟨Nat.zero_le _, start.1, start.2⟩ ?_
    clear start w2 q0 qs w1
    rintro k w' ⟨hk, hb, hrw⟩
    refine WC.seq (WC.region ?_)
    by_cases hkm : k < m
    · refine WL.val rfl rfl (Runs.lss rfl rfl (declt hkm)) ?_
      refine WL.nil ?_
      repeat (first | refine AtExit.thenRet ?_ | refine AtExit.thenExit ?_ | refine AtExit.blockRet ?_ | refine AtExit.blockEnd ?_ | refine AtExit.blockExit ?_ | (refine AtExit.blockPast ?_ ?_; rfl))
      refine AtExit.go ?_
      refine WC.seq (WC.condT rfl ?_)
      refine WC.skip ?_
      repeat (first | refine AtExit.thenRet ?_ | refine AtExit.thenExit ?_ | refine AtExit.blockRet ?_ | refine AtExit.blockEnd ?_ | refine AtExit.blockExit ?_ | (refine AtExit.blockPast ?_ ?_; rfl))
      refine AtExit.go ?_
      refine WC.seq (WC.block ?_)
      obtain ⟨b, o, hAb, hbN, c0, c1, c2⟩ := hA.below hb k hkm
      refine WC.seq (WC.region ?_)
      repeat (first | (refine WL.val ?_ ?_ (Runs.move rfl) ?_; rfl; rfl) | (refine WL.val ?_ ?_ (Runs.assign rfl) ?_; rfl; rfl) | (refine WL.val ?_ ?_ (Runs.extract rfl rfl) ?_; rfl; rfl) | (refine WL.val ?_ ?_ (Runs.nilCheck rfl) ?_; rfl; rfl) | (refine WL.val ?_ ?_ (Runs.pickT rfl rfl) ?_; rfl; rfl) | (refine WL.val ?_ ?_ (Runs.pickF rfl rfl) ?_; rfl; rfl) | (refine WL.val ?_ ?_ (Runs.len rfl sl22) ?_; rfl; rfl) | (refine WL.val ?_ ?_ (Runs.len rfl sl27) ?_; rfl; rfl) | (refine WL.val ?_ ?_ (Runs.len rfl sl37) ?_; rfl; rfl) | (refine WL.pass ?_ ?_ ?_; rfl; rfl))
      refine WL.val rfl rfl (Runs.idxK hAb rfl rfl Yba.underlying22 sz29 rfl hkm) ?_
      refine WL.val rfl rfl (Runs.loadAgg (cs := [.int .i64 (sq k), .int .i64 (dy k), .int .u8 (kd k : Int)]) rfl na29 sz29 (three_cells c0 c1 c2)) ?_
      refine WL.val rfl rfl (Runs.alloc in29) ?_
      repeat (first | (refine WL.val ?_ ?_ (Runs.move rfl) ?_; rfl; rfl) | (refine WL.val ?_ ?_ (Runs.assign rfl) ?_; rfl; rfl) | (refine WL.val ?_ ?_ (Runs.extract rfl rfl) ?_; rfl; rfl) | (refine WL.val ?_ ?_ (Runs.nilCheck rfl) ?_; rfl; rfl) | (refine WL.val ?_ ?_ (Runs.pickT rfl rfl) ?_; rfl; rfl) | (refine WL.val ?_ ?_ (Runs.pickF rfl rfl) ?_; rfl; rfl) | (refine WL.val ?_ ?_ (Runs.len rfl sl22) ?_; rfl; rfl) | (refine WL.val ?_ ?_ (Runs.len rfl sl27) ?_; rfl; rfl) | (refine WL.val ?_ ?_ (Runs.len rfl sl37) ?_; rfl; rfl) | (refine WL.pass ?_ ?_ ?_; rfl; rfl))
      have hc1 := heap_new w' (.cells (Value.agg #[.int .i64 0, .int .i64 0, .int .u8 0]).cells 29)
      have hb1 := below_new w' (.cells (Value.agg #[.int .i64 0, .int .i64 0, .int .u8 0]).cells 29) (Nat.le_refl _)
      refine WL.skip rfl (RunsS.storeRow rfl rfl (by simp [Value.oneCell']) sz29 hc1 rfl) ?_
      refine WL.nil ?_
      repeat (first | refine AtExit.thenRet ?_ | refine AtExit.thenExit ?_ | refine AtExit.blockRet ?_ | refine AtExit.blockEnd ?_ | refine AtExit.blockExit ?_ | (refine AtExit.blockPast ?_ ?_; rfl))
      refine AtExit.go ?_
      have hc2 := setRow_heap _ _ _ #[.int .i64 (sq k), .int .i64 (dy k), .int .u8 (kd k : Int)] _ _ hc1
      have hb2 := hb1.trans (below_setRow' _ w'.heap.size #[.int .i64 (sq k), .int .i64 (dy k), .int .u8 (kd k : Int)] (Nat.le_refl _))
      have hXB := hrw.lt
      have hrw2 := hrw.below hb2 hXB
      have hb3 := hb.trans (hb2.mono (by omega))
      generalize (w'.alloc _).setRow _ _ = w2 at hc2 hb2 hrw2 hb3 ⊢
      generalize w'.heap.size = X at hc2 hXB ⊢
      clear hc1 hb1 hb2 hrw hb c0 c1 c2 hbN hAb
      refine WC.seq (WC.region ?_)
      repeat (first | (refine WL.val ?_ ?_ (Runs.move rfl) ?_; rfl; rfl) | (refine WL.val ?_ ?_ (Runs.assign rfl) ?_; rfl; rfl) | (refine WL.val ?_ ?_ (Runs.extract rfl rfl) ?_; rfl; rfl) | (refine WL.val ?_ ?_ (Runs.nilCheck rfl) ?_; rfl; rfl) | (refine WL.val ?_ ?_ (Runs.pickT rfl rfl) ?_; rfl; rfl) | (refine WL.val ?_ ?_ (Runs.pickF rfl rfl) ?_; rfl; rfl) | (refine WL.val ?_ ?_ (Runs.len rfl sl22) ?_; rfl; rfl) | (refine WL.val ?_ ?_ (Runs.len rfl sl27) ?_; rfl; rfl) | (refine WL.val ?_ ?_ (Runs.len rfl sl37) ?_; rfl; rfl) | (refine WL.pass ?_ ?_ ?_; rfl; rfl))
      refine WL.nil ?_
      repeat (first | refine AtExit.thenRet ?_ | refine AtExit.thenExit ?_ | refine AtExit.blockRet ?_ | refine AtExit.blockEnd ?_ | refine AtExit.blockExit ?_ | (refine AtExit.blockPast ?_ ?_; rfl))
      refine AtExit.go ?_
      refine WC.cut (α := Unit) (fun _ => [(0, .slice A m Ca), (1, .int .i64 after), (5, .pointer (some ⟨B, 0, none⟩)), (6, .pointer (some ⟨B + 1, 0, none⟩)), (7, .slice (some ⟨B + 2, 0, none⟩) m m), (32, .slice A m Ca), (33, .int .i64 (m : Int)), (34, .int .i64 (k : Int)), (8, .int .i64 (k : Int)), (9, .pointer (some ⟨X, 0, none⟩)), (10, .pointer (ekOf B (kd k)))])
        (fun _ w' => w' = w2) ?_ ?_
      · refine WC.seq (WC.region ?_)
        refine WL.val rfl rfl (Runs.fld rfl fl29_2) ?_
        refine WL.val rfl rfl (Runs.load rfl na5 (v := .int .u8 (kd k : Int)) (by rw [cell_of hc2]; rfl)) ?_
        refine WL.val rfl rfl (Runs.rem rfl rfl (by decide) (tmod3 (kd k))) ?_
        refine WL.nil ?_
        repeat (first | refine AtExit.thenRet ?_ | refine AtExit.thenExit ?_ | refine AtExit.blockRet ?_ | refine AtExit.blockEnd ?_ | refine AtExit.blockExit ?_ | (refine AtExit.blockPast ?_ ?_; rfl))
        refine AtExit.go ?_
        refine WC.block ?_
        refine WC.seq (WC.region ?_)
        by_cases h1 : kd k % 3 = 1
        · refine WL.val rfl rfl (Runs.eql rfl rfl (r := true) (dtrue (by omega))) ?_
          repeat (first | (refine WL.val ?_ ?_ (Runs.move rfl) ?_; rfl; rfl) | (refine WL.val ?_ ?_ (Runs.assign rfl) ?_; rfl; rfl) | (refine WL.val ?_ ?_ (Runs.extract rfl rfl) ?_; rfl; rfl) | (refine WL.val ?_ ?_ (Runs.nilCheck rfl) ?_; rfl; rfl) | (refine WL.val ?_ ?_ (Runs.pickT rfl rfl) ?_; rfl; rfl) | (refine WL.val ?_ ?_ (Runs.pickF rfl rfl) ?_; rfl; rfl) | (refine WL.val ?_ ?_ (Runs.len rfl sl22) ?_; rfl; rfl) | (refine WL.val ?_ ?_ (Runs.len rfl sl27) ?_; rfl; rfl) | (refine WL.val ?_ ?_ (Runs.len rfl sl37) ?_; rfl; rfl) | (refine WL.pass ?_ ?_ ?_; rfl; rfl))
          refine WL.nil ?_
          repeat (first | refine AtExit.thenRet ?_ | refine AtExit.thenExit ?_ | refine AtExit.blockRet ?_ | refine AtExit.blockEnd ?_ | refine AtExit.blockExit ?_ | (refine AtExit.blockPast ?_ ?_; rfl))
          refine AtExit.go ?_
          refine WC.condT rfl ?_
          refine WC.region ?_
          repeat (first | (refine WL.val ?_ ?_ (Runs.move rfl) ?_; rfl; rfl) | (refine WL.val ?_ ?_ (Runs.assign rfl) ?_; rfl; rfl) | (refine WL.val ?_ ?_ (Runs.extract rfl rfl) ?_; rfl; rfl) | (refine WL.val ?_ ?_ (Runs.nilCheck rfl) ?_; rfl; rfl) | (refine WL.val ?_ ?_ (Runs.pickT rfl rfl) ?_; rfl; rfl) | (refine WL.val ?_ ?_ (Runs.pickF rfl rfl) ?_; rfl; rfl) | (refine WL.val ?_ ?_ (Runs.len rfl sl22) ?_; rfl; rfl) | (refine WL.val ?_ ?_ (Runs.len rfl sl27) ?_; rfl; rfl) | (refine WL.val ?_ ?_ (Runs.len rfl sl37) ?_; rfl; rfl) | (refine WL.pass ?_ ?_ ?_; rfl; rfl))
          have e : ekOf B (kd k) = some ⟨B, 0, none⟩ := by unfold ekOf; rw [if_pos h1]
          rw [e]
          refine WL.nil ?_
          repeat (first | refine AtExit.thenRet ?_ | refine AtExit.thenExit ?_ | refine AtExit.blockRet ?_ | refine AtExit.blockEnd ?_ | refine AtExit.blockExit ?_ | (refine AtExit.blockPast ?_ ?_; rfl))
          refine AtExit.inv fun a ha => ⟨(), ha.sub (by repeat (first | exact Sub.nil _ | refine Sub.cons rfl ?_)), rfl⟩
        · refine WL.val rfl rfl (Runs.eql rfl rfl (r := false) (dfalse (by omega))) ?_
          repeat (first | (refine WL.val ?_ ?_ (Runs.move rfl) ?_; rfl; rfl) | (refine WL.val ?_ ?_ (Runs.assign rfl) ?_; rfl; rfl) | (refine WL.val ?_ ?_ (Runs.extract rfl rfl) ?_; rfl; rfl) | (refine WL.val ?_ ?_ (Runs.nilCheck rfl) ?_; rfl; rfl) | (refine WL.val ?_ ?_ (Runs.pickT rfl rfl) ?_; rfl; rfl) | (refine WL.val ?_ ?_ (Runs.pickF rfl rfl) ?_; rfl; rfl) | (refine WL.val ?_ ?_ (Runs.len rfl sl22) ?_; rfl; rfl) | (refine WL.val ?_ ?_ (Runs.len rfl sl27) ?_; rfl; rfl) | (refine WL.val ?_ ?_ (Runs.len rfl sl37) ?_; rfl; rfl) | (refine WL.pass ?_ ?_ ?_; rfl; rfl))
          refine WL.nil ?_
          repeat (first | refine AtExit.thenRet ?_ | refine AtExit.thenExit ?_ | refine AtExit.blockRet ?_ | refine AtExit.blockEnd ?_ | refine AtExit.blockExit ?_ | (refine AtExit.blockPast ?_ ?_; rfl))
          refine AtExit.go ?_
          refine WC.condF rfl ?_
          refine WC.seq (WC.region ?_)
          by_cases h2 : kd k % 3 = 2
          · refine WL.val rfl rfl (Runs.eql rfl rfl (r := true) (dtrue (by omega))) ?_
            repeat (first | (refine WL.val ?_ ?_ (Runs.move rfl) ?_; rfl; rfl) | (refine WL.val ?_ ?_ (Runs.assign rfl) ?_; rfl; rfl) | (refine WL.val ?_ ?_ (Runs.extract rfl rfl) ?_; rfl; rfl) | (refine WL.val ?_ ?_ (Runs.nilCheck rfl) ?_; rfl; rfl) | (refine WL.val ?_ ?_ (Runs.pickT rfl rfl) ?_; rfl; rfl) | (refine WL.val ?_ ?_ (Runs.pickF rfl rfl) ?_; rfl; rfl) | (refine WL.val ?_ ?_ (Runs.len rfl sl22) ?_; rfl; rfl) | (refine WL.val ?_ ?_ (Runs.len rfl sl27) ?_; rfl; rfl) | (refine WL.val ?_ ?_ (Runs.len rfl sl37) ?_; rfl; rfl) | (refine WL.pass ?_ ?_ ?_; rfl; rfl))
            refine WL.nil ?_
            repeat (first | refine AtExit.thenRet ?_ | refine AtExit.thenExit ?_ | refine AtExit.blockRet ?_ | refine AtExit.blockEnd ?_ | refine AtExit.blockExit ?_ | (refine AtExit.blockPast ?_ ?_; rfl))
            refine AtExit.go ?_
            refine WC.condT rfl ?_
            refine WC.region ?_
            repeat (first | (refine WL.val ?_ ?_ (Runs.move rfl) ?_; rfl; rfl) | (refine WL.val ?_ ?_ (Runs.assign rfl) ?_; rfl; rfl) | (refine WL.val ?_ ?_ (Runs.extract rfl rfl) ?_; rfl; rfl) | (refine WL.val ?_ ?_ (Runs.nilCheck rfl) ?_; rfl; rfl) | (refine WL.val ?_ ?_ (Runs.pickT rfl rfl) ?_; rfl; rfl) | (refine WL.val ?_ ?_ (Runs.pickF rfl rfl) ?_; rfl; rfl) | (refine WL.val ?_ ?_ (Runs.len rfl sl22) ?_; rfl; rfl) | (refine WL.val ?_ ?_ (Runs.len rfl sl27) ?_; rfl; rfl) | (refine WL.val ?_ ?_ (Runs.len rfl sl37) ?_; rfl; rfl) | (refine WL.pass ?_ ?_ ?_; rfl; rfl))
            have e : ekOf B (kd k) = some ⟨B + 1, 0, none⟩ := by unfold ekOf; rw [if_neg h1, if_pos h2]
            rw [e]
            refine WL.nil ?_
            repeat (first | refine AtExit.thenRet ?_ | refine AtExit.thenExit ?_ | refine AtExit.blockRet ?_ | refine AtExit.blockEnd ?_ | refine AtExit.blockExit ?_ | (refine AtExit.blockPast ?_ ?_; rfl))
            refine AtExit.inv fun a ha => ⟨(), ha.sub (by repeat (first | exact Sub.nil _ | refine Sub.cons rfl ?_)), rfl⟩
          · refine WL.val rfl rfl (Runs.eql rfl rfl (r := false) (dfalse (by omega))) ?_
            repeat (first | (refine WL.val ?_ ?_ (Runs.move rfl) ?_; rfl; rfl) | (refine WL.val ?_ ?_ (Runs.assign rfl) ?_; rfl; rfl) | (refine WL.val ?_ ?_ (Runs.extract rfl rfl) ?_; rfl; rfl) | (refine WL.val ?_ ?_ (Runs.nilCheck rfl) ?_; rfl; rfl) | (refine WL.val ?_ ?_ (Runs.pickT rfl rfl) ?_; rfl; rfl) | (refine WL.val ?_ ?_ (Runs.pickF rfl rfl) ?_; rfl; rfl) | (refine WL.val ?_ ?_ (Runs.len rfl sl22) ?_; rfl; rfl) | (refine WL.val ?_ ?_ (Runs.len rfl sl27) ?_; rfl; rfl) | (refine WL.val ?_ ?_ (Runs.len rfl sl37) ?_; rfl; rfl) | (refine WL.pass ?_ ?_ ?_; rfl; rfl))
            refine WL.nil ?_
            repeat (first | refine AtExit.thenRet ?_ | refine AtExit.thenExit ?_ | refine AtExit.blockRet ?_ | refine AtExit.blockEnd ?_ | refine AtExit.blockExit ?_ | (refine AtExit.blockPast ?_ ?_; rfl))
            refine AtExit.go ?_
            refine WC.condF rfl ?_
            have e : ekOf B (kd k) = none := by unfold ekOf; rw [if_neg h1, if_neg h2]
            rw [e]
            refine WC.skip ?_
            repeat (first | refine AtExit.thenRet ?_ | refine AtExit.thenExit ?_ | refine AtExit.blockRet ?_ | refine AtExit.blockEnd ?_ | refine AtExit.blockExit ?_ | (refine AtExit.blockPast ?_ ?_; rfl))
            refine AtExit.inv fun a ha => ⟨(), ha.sub (by repeat (first | exact Sub.nil _ | refine Sub.cons rfl ?_)), rfl⟩
      rintro _ w3 rfl
      have hXne : some X ≠ some (B + 2) := fun e => by cases e; omega
      have hS0 : w3.grownBy w3.drew (some (B + 2)) := grown_of_below (below_drawn _ _ _) _
      refine WC.held (fun wq => w3.grownBy wq (some (B + 2))) mixed rfl ?_
      refine HL.take 0 rfl (by kernel_rfl) (by kernel_rfl) (by kernel_rfl) (fun _ _ _ h => h) rfl rfl (fun wq hC => Runs.move rfl) (by assumption) ?_
      refine HL.take 1 rfl (by kernel_rfl) (by kernel_rfl) (by kernel_rfl) (fun _ _ _ h => h) rfl rfl (fun wq hC => Runs.move rfl) (by assumption) ?_
      refine HL.take 2 rfl (by kernel_rfl) (by kernel_rfl) (by kernel_rfl) (fun _ _ _ h => h) rfl rfl (fun wq hC => Runs.fld rfl fl29_0) (by assumption) ?_
      refine HL.take 3 rfl (by kernel_rfl) (by kernel_rfl) (by kernel_rfl) (fun _ _ _ h => h) rfl rfl (fun wq hC => Runs.load rfl na3 (v := .int .i64 (sq k)) (by rw [cell_of (grown_heap hC hXne hc2)]; rfl)) (by assumption) ?_
      refine HL.take 4 rfl (by kernel_rfl) (by kernel_rfl) (by kernel_rfl) (fun _ _ _ h => h) rfl rfl (fun wq hC => Runs.fld rfl fl29_1) (by assumption) ?_
      refine HL.take 5 rfl (by kernel_rfl) (by kernel_rfl) (by kernel_rfl) (fun _ _ _ h => h) rfl rfl (fun wq hC => Runs.load rfl na2 (v := .int .i64 (dy k)) (by rw [cell_of (grown_heap hC hXne hc2)]; rfl)) (by assumption) ?_
      refine HL.take 7 rfl (by kernel_rfl) (by kernel_rfl) (by kernel_rfl) (fun _ _ _ h => h) rfl rfl (fun wq hC => Runs.move rfl) (by assumption) ?_
      refine HL.all1 (i := 6) (by kernel_rfl) ?_
      have hdk := hdy k hkm
      refine HO.call rfl rfl rfl (RunsC.call rfl en4) (at_any (dy k) w3.drew hdk.1 hdk.2) ?_
      rintro e w4 ⟨rfl, hb4⟩
      have hS4 : w3.grownBy w4 (some (B + 2)) := World.grownBy.trans' hS0 (grown_of_below hb4 _)
      refine ⟨_, rfl, hS4, ?_⟩
      have hrw4 : Rw w4 (B + 2) ((List.range k).map R ++ List.replicate (m - k) zeroRc) := Rw.below (w := w3.drew) ⟨hrw2.ex⟩ hb4 hrw2.lt
      have hb5 : Below B w w4 := hb3.trans ⟨hb4.os, hb4.tape, hb4.output, hb4.size, fun i hi => hb4.block i (by have := hrw2.lt; show i < w3.heap.size; omega)⟩
      refine HL.take 8 rfl (by kernel_rfl) (by kernel_rfl) (by kernel_rfl) (fun _ _ _ h => h) rfl rfl (fun wq hC => Runs.build (cs := #[.int .i64 (sq k), .int .u64 (dy k % 1000000000), .int .i64 (dy k / 1000000000), .pointer none, .pointer (ekOf B (kd k))]) rfl (by kernel_rfl)) hS4 ?_
      refine HL.take 9 rfl (by kernel_rfl) (by kernel_rfl) (by kernel_rfl) (fun _ _ _ h => h) rfl rfl (fun wq hC => Runs.idx rfl rfl Yba.underlying27 sz36 rfl hkm) hS4 ?_
      refine HL.all1 (i := 10) (by kernel_rfl) ?_
      have hl4 : k < ((List.range k).map R ++ List.replicate (m - k) zeroRc).length := by simp; omega
      have hput := hrw4.put hl4 (R k)
      rw [fill_step R m k hkm] at hput
      have hg4 := grown_setCells w4 (B + 2) (0 + k * 5) (enc (R k))
      have hencR : enc (R k) = [.int .i64 (sq k), .int .u64 (dy k % 1000000000), .int .i64 (dy k / 1000000000), .pointer none, .pointer (ekOf B (kd k))] := by rw [← hR]; rfl
      rw [hencR] at hput hg4
      refine HO.skip rfl rfl (RunsS.storeMid rfl rfl (by simp [Value.oneCell']) sz36 (hrw4.there hl4)) (World.grownBy.trans' hS4 hg4) ?_
      refine HL.done (by kernel_rfl) ?_
      repeat (first | refine AtExit.thenRet ?_ | refine AtExit.thenExit ?_ | refine AtExit.blockRet ?_ | refine AtExit.blockEnd ?_ | refine AtExit.blockExit ?_ | (refine AtExit.blockPast ?_ ?_; rfl))
      refine AtExit.go ?_
      refine WC.region ?_
      refine WL.val rfl rfl (Runs.add rfl rfl (r := ((k + 1 : Nat) : Int)) (wI (by omega) (by omega) (by omega))) ?_
      repeat (first | (refine WL.val ?_ ?_ (Runs.move rfl) ?_; rfl; rfl) | (refine WL.val ?_ ?_ (Runs.assign rfl) ?_; rfl; rfl) | (refine WL.val ?_ ?_ (Runs.extract rfl rfl) ?_; rfl; rfl) | (refine WL.val ?_ ?_ (Runs.nilCheck rfl) ?_; rfl; rfl) | (refine WL.val ?_ ?_ (Runs.pickT rfl rfl) ?_; rfl; rfl) | (refine WL.val ?_ ?_ (Runs.pickF rfl rfl) ?_; rfl; rfl) | (refine WL.val ?_ ?_ (Runs.len rfl sl22) ?_; rfl; rfl) | (refine WL.val ?_ ?_ (Runs.len rfl sl27) ?_; rfl; rfl) | (refine WL.val ?_ ?_ (Runs.len rfl sl37) ?_; rfl; rfl) | (refine WL.pass ?_ ?_ ?_; rfl; rfl))
      refine WL.nil ?_
      repeat (first | refine AtExit.thenRet ?_ | refine AtExit.thenExit ?_ | refine AtExit.blockRet ?_ | refine AtExit.blockEnd ?_ | refine AtExit.blockExit ?_ | (refine AtExit.blockPast ?_ ?_; rfl))
      refine AtExit.inv fun a ha => ⟨k + 1, ha.sub (by repeat (first | exact Sub.nil _ | refine Sub.cons rfl ?_)), ⟨by omega, hb5.trans (below_of_grown hg4 (by omega) (by have := hrw4.lt; omega)), hput⟩, by omega⟩
    · refine WL.val rfl rfl (Runs.lss rfl rfl (decge hkm)) ?_
      refine WL.nil ?_
      repeat (first | refine AtExit.thenRet ?_ | refine AtExit.thenExit ?_ | refine AtExit.blockRet ?_ | refine AtExit.blockEnd ?_ | refine AtExit.blockExit ?_ | (refine AtExit.blockPast ?_ ?_; rfl))
      refine AtExit.go ?_
      refine WC.seq (WC.condF rfl ?_)
      have hke : k = m := by omega
      subst hke
      rw [Nat.sub_self, List.replicate_zero, List.append_nil] at hrw
      refine WC.exit ?_
      repeat (first | refine AtExit.thenRet ?_ | refine AtExit.thenExit ?_ | refine AtExit.blockRet ?_ | refine AtExit.blockEnd ?_ | refine AtExit.blockExit ?_ | (refine AtExit.blockPast ?_ ?_; rfl))
      refine AtExit.inv fun a ha => ⟨(), ha.sub (by repeat (first | exact Sub.nil _ | refine Sub.cons rfl ?_)), hb, hrw⟩
  clear start w2 q0 qs w1
  rintro _ w1 ⟨hb1, hrw1⟩
  have hrl : ((List.range m).map R).length = m := by simp
  refine WC.seq (WC.region ?_)
  repeat (first | (refine WL.val ?_ ?_ (Runs.move rfl) ?_; rfl; rfl) | (refine WL.val ?_ ?_ (Runs.assign rfl) ?_; rfl; rfl) | (refine WL.val ?_ ?_ (Runs.extract rfl rfl) ?_; rfl; rfl) | (refine WL.val ?_ ?_ (Runs.nilCheck rfl) ?_; rfl; rfl) | (refine WL.val ?_ ?_ (Runs.pickT rfl rfl) ?_; rfl; rfl) | (refine WL.val ?_ ?_ (Runs.pickF rfl rfl) ?_; rfl; rfl) | (refine WL.val ?_ ?_ (Runs.len rfl sl22) ?_; rfl; rfl) | (refine WL.val ?_ ?_ (Runs.len rfl sl27) ?_; rfl; rfl) | (refine WL.val ?_ ?_ (Runs.len rfl sl37) ?_; rfl; rfl) | (refine WL.pass ?_ ?_ ?_; rfl; rfl))
  refine WL.val rfl rfl (Runs.makeK rfl rfl Yba.underlying27 in36 (by omega) (by omega)) ?_
  repeat (first | (refine WL.val ?_ ?_ (Runs.move rfl) ?_; rfl; rfl) | (refine WL.val ?_ ?_ (Runs.assign rfl) ?_; rfl; rfl) | (refine WL.val ?_ ?_ (Runs.extract rfl rfl) ?_; rfl; rfl) | (refine WL.val ?_ ?_ (Runs.nilCheck rfl) ?_; rfl; rfl) | (refine WL.val ?_ ?_ (Runs.pickT rfl rfl) ?_; rfl; rfl) | (refine WL.val ?_ ?_ (Runs.pickF rfl rfl) ?_; rfl; rfl) | (refine WL.val ?_ ?_ (Runs.len rfl sl22) ?_; rfl; rfl) | (refine WL.val ?_ ?_ (Runs.len rfl sl27) ?_; rfl; rfl) | (refine WL.val ?_ ?_ (Runs.len rfl sl37) ?_; rfl; rfl) | (refine WL.pass ?_ ?_ ?_; rfl; rfl))
  refine WL.nil ?_
  repeat (first | refine AtExit.thenRet ?_ | refine AtExit.thenExit ?_ | refine AtExit.blockRet ?_ | refine AtExit.blockEnd ?_ | refine AtExit.blockExit ?_ | (refine AtExit.blockPast ?_ ?_; rfl))
  refine AtExit.go ?_
  obtain ⟨w2, hcp, hrs, hbs⟩ := copy_recs w1 (B + 2) _ hrw1
  rw [hrl] at hcp
  have hrw2 := hrw1.below hbs hrw1.lt
  have hb2 := hb1.trans (hbs.mono (by have := hrw1.lt; omega))
  have hBD : B + 2 < w1.heap.size := hrw1.lt
  refine WC.seq (WC.region ?_)
  repeat (first | (refine WL.val ?_ ?_ (Runs.move rfl) ?_; rfl; rfl) | (refine WL.val ?_ ?_ (Runs.assign rfl) ?_; rfl; rfl) | (refine WL.val ?_ ?_ (Runs.extract rfl rfl) ?_; rfl; rfl) | (refine WL.val ?_ ?_ (Runs.nilCheck rfl) ?_; rfl; rfl) | (refine WL.val ?_ ?_ (Runs.pickT rfl rfl) ?_; rfl; rfl) | (refine WL.val ?_ ?_ (Runs.pickF rfl rfl) ?_; rfl; rfl) | (refine WL.val ?_ ?_ (Runs.len rfl sl22) ?_; rfl; rfl) | (refine WL.val ?_ ?_ (Runs.len rfl sl27) ?_; rfl; rfl) | (refine WL.val ?_ ?_ (Runs.len rfl sl37) ?_; rfl; rfl) | (refine WL.pass ?_ ?_ ?_; rfl; rfl))
  refine WL.val rfl rfl (Runs.copy rfl hcp) ?_
  refine WL.nil ?_
  repeat (first | refine AtExit.thenRet ?_ | refine AtExit.thenExit ?_ | refine AtExit.blockRet ?_ | refine AtExit.blockEnd ?_ | refine AtExit.blockExit ?_ | (refine AtExit.blockPast ?_ ?_; rfl))
  refine AtExit.go ?_
  generalize w1.heap.size = D at hrs hBD ⊢
  clear hcp hbs hrw1 hb1 w1
  refine WC.seq (WC.region ?_)
  repeat (first | (refine WL.val ?_ ?_ (Runs.move rfl) ?_; rfl; rfl) | (refine WL.val ?_ ?_ (Runs.assign rfl) ?_; rfl; rfl) | (refine WL.val ?_ ?_ (Runs.extract rfl rfl) ?_; rfl; rfl) | (refine WL.val ?_ ?_ (Runs.nilCheck rfl) ?_; rfl; rfl) | (refine WL.val ?_ ?_ (Runs.pickT rfl rfl) ?_; rfl; rfl) | (refine WL.val ?_ ?_ (Runs.pickF rfl rfl) ?_; rfl; rfl) | (refine WL.val ?_ ?_ (Runs.len rfl sl22) ?_; rfl; rfl) | (refine WL.val ?_ ?_ (Runs.len rfl sl27) ?_; rfl; rfl) | (refine WL.val ?_ ?_ (Runs.len rfl sl37) ?_; rfl; rfl) | (refine WL.pass ?_ ?_ ?_; rfl; rfl))
  refine WL.nil ?_
  repeat (first | refine AtExit.thenRet ?_ | refine AtExit.thenExit ?_ | refine AtExit.blockRet ?_ | refine AtExit.blockEnd ?_ | refine AtExit.blockExit ?_ | (refine AtExit.blockPast ?_ ?_; rfl))
  refine AtExit.go ?_
  obtain ⟨base, hbase⟩ : ∃ b, b = w2.heap.size := ⟨_, rfl⟩
  have hDb : D < base := by rw [hbase]; exact hrs.lt
  obtain ⟨sel, hsel⟩ : ∃ sel : Nat → Bool, sel = fun i => keep after (R i) := ⟨_, rfl⟩
  have hselk : ∀ i, sel i = (!decide (kd i % 3 = 0) && decide (after < dy i)) := fun i => by
    rw [hsel, ← hR]
    show keep after (recOf B sq dy kd i) = _
    unfold keep recOf
    rw [ekOf_some]
  refine WC.cut (α := Value) (fun v => [(0, .slice A m Ca), (1, .int .i64 after), (7, .slice (some ⟨B + 2, 0, none⟩) m m), (11, .slice (some ⟨D, 0, none⟩) m m), (12, v)])
    (fun v w' => Below base w2 w' ∧ base ≤ w'.heap.size ∧ Ix w' base v ((List.range m).filter sel)) ?_ ?_
  · refine WC.seq (WC.region ?_)
    repeat (first | (refine WL.val ?_ ?_ (Runs.move rfl) ?_; rfl; rfl) | (refine WL.val ?_ ?_ (Runs.assign rfl) ?_; rfl; rfl) | (refine WL.val ?_ ?_ (Runs.extract rfl rfl) ?_; rfl; rfl) | (refine WL.val ?_ ?_ (Runs.nilCheck rfl) ?_; rfl; rfl) | (refine WL.val ?_ ?_ (Runs.pickT rfl rfl) ?_; rfl; rfl) | (refine WL.val ?_ ?_ (Runs.pickF rfl rfl) ?_; rfl; rfl) | (refine WL.val ?_ ?_ (Runs.len rfl sl22) ?_; rfl; rfl) | (refine WL.val ?_ ?_ (Runs.len rfl sl27) ?_; rfl; rfl) | (refine WL.val ?_ ?_ (Runs.len rfl sl37) ?_; rfl; rfl) | (refine WL.pass ?_ ?_ ?_; rfl; rfl))
    refine WL.nil ?_
    repeat (first | refine AtExit.thenRet ?_ | refine AtExit.thenExit ?_ | refine AtExit.blockRet ?_ | refine AtExit.blockEnd ?_ | refine AtExit.blockExit ?_ | (refine AtExit.blockPast ?_ ?_; rfl))
    refine AtExit.go ?_
    refine WC.block ?_
    refine WC.loop (α := Nat × Value) (fun | (k, v) => [(0, .slice A m Ca), (1, .int .i64 after), (7, .slice (some ⟨B + 2, 0, none⟩) m m), (11, .slice (some ⟨D, 0, none⟩) m m), (12, v), (65, .slice A m Ca), (66, .int .i64 (m : Int)), (67, .int .i64 (k : Int))])
      (fun | (k, v) => fun w' => k ≤ m ∧ Below base w2 w' ∧ base ≤ w'.heap.size ∧ Ix w' base v ((List.range k).filter sel)) (fun | (k, _) => m - k) (0, .slice none 0 0) (by repeat (first | exact Sub.nil _ | refine Sub.cons rfl ?_)) ⟨Nat.zero_le _, Below.refl _ _, by omega, Ix.nil _ _⟩ ?_
    rintro ⟨k, v⟩ w' ⟨hk, hb, hbz, hix⟩
    refine WC.seq (WC.region ?_)
    by_cases hkm : k < m
    · refine WL.val rfl rfl (Runs.lss rfl rfl (declt hkm)) ?_
      refine WL.nil ?_
      repeat (first | refine AtExit.thenRet ?_ | refine AtExit.thenExit ?_ | refine AtExit.blockRet ?_ | refine AtExit.blockEnd ?_ | refine AtExit.blockExit ?_ | (refine AtExit.blockPast ?_ ?_; rfl))
      refine AtExit.go ?_
      refine WC.seq (WC.condT rfl ?_)
      refine WC.skip ?_
      repeat (first | refine AtExit.thenRet ?_ | refine AtExit.thenExit ?_ | refine AtExit.blockRet ?_ | refine AtExit.blockEnd ?_ | refine AtExit.blockExit ?_ | (refine AtExit.blockPast ?_ ?_; rfl))
      refine AtExit.go ?_
      refine WC.seq (WC.block ?_)
      obtain ⟨b, o, hAb, hbN, c0, c1, c2⟩ := hA.below (hb2.trans (hb.mono (by omega))) k hkm
      refine WC.seq (WC.region ?_)
      repeat (first | (refine WL.val ?_ ?_ (Runs.move rfl) ?_; rfl; rfl) | (refine WL.val ?_ ?_ (Runs.assign rfl) ?_; rfl; rfl) | (refine WL.val ?_ ?_ (Runs.extract rfl rfl) ?_; rfl; rfl) | (refine WL.val ?_ ?_ (Runs.nilCheck rfl) ?_; rfl; rfl) | (refine WL.val ?_ ?_ (Runs.pickT rfl rfl) ?_; rfl; rfl) | (refine WL.val ?_ ?_ (Runs.pickF rfl rfl) ?_; rfl; rfl) | (refine WL.val ?_ ?_ (Runs.len rfl sl22) ?_; rfl; rfl) | (refine WL.val ?_ ?_ (Runs.len rfl sl27) ?_; rfl; rfl) | (refine WL.val ?_ ?_ (Runs.len rfl sl37) ?_; rfl; rfl) | (refine WL.pass ?_ ?_ ?_; rfl; rfl))
      refine WL.val rfl rfl (Runs.idxK hAb rfl rfl Yba.underlying22 sz29 rfl hkm) ?_
      refine WL.val rfl rfl (Runs.loadAgg (cs := [.int .i64 (sq k), .int .i64 (dy k), .int .u8 (kd k : Int)]) rfl na29 sz29 (three_cells c0 c1 c2)) ?_
      refine WL.val rfl rfl (Runs.alloc in29) ?_
      repeat (first | (refine WL.val ?_ ?_ (Runs.move rfl) ?_; rfl; rfl) | (refine WL.val ?_ ?_ (Runs.assign rfl) ?_; rfl; rfl) | (refine WL.val ?_ ?_ (Runs.extract rfl rfl) ?_; rfl; rfl) | (refine WL.val ?_ ?_ (Runs.nilCheck rfl) ?_; rfl; rfl) | (refine WL.val ?_ ?_ (Runs.pickT rfl rfl) ?_; rfl; rfl) | (refine WL.val ?_ ?_ (Runs.pickF rfl rfl) ?_; rfl; rfl) | (refine WL.val ?_ ?_ (Runs.len rfl sl22) ?_; rfl; rfl) | (refine WL.val ?_ ?_ (Runs.len rfl sl27) ?_; rfl; rfl) | (refine WL.val ?_ ?_ (Runs.len rfl sl37) ?_; rfl; rfl) | (refine WL.pass ?_ ?_ ?_; rfl; rfl))
      have hc1 := heap_new w' (.cells (Value.agg #[.int .i64 0, .int .i64 0, .int .u8 0]).cells 29)
      have hb1 := below_new w' (.cells (Value.agg #[.int .i64 0, .int .i64 0, .int .u8 0]).cells 29) (Nat.le_refl _)
      refine WL.skip rfl (RunsS.storeRow rfl rfl (by simp [Value.oneCell']) sz29 hc1 rfl) ?_
      refine WL.nil ?_
      repeat (first | refine AtExit.thenRet ?_ | refine AtExit.thenExit ?_ | refine AtExit.blockRet ?_ | refine AtExit.blockEnd ?_ | refine AtExit.blockExit ?_ | (refine AtExit.blockPast ?_ ?_; rfl))
      refine AtExit.go ?_
      have hc2 := setRow_heap _ _ _ #[.int .i64 (sq k), .int .i64 (dy k), .int .u8 (kd k : Int)] _ _ hc1
      have hb3 := hb1.trans (below_setRow' _ w'.heap.size #[.int .i64 (sq k), .int .i64 (dy k), .int .u8 (kd k : Int)] (Nat.le_refl _))
      have hix3 := hix.below hb3
      have hb4 := hb.trans (hb3.mono hbz)
      have hz4 := Nat.le_trans hbz hb3.size
      generalize (w'.alloc _).setRow _ _ = w3 at hc2 hb3 hix3 hb4 hz4 ⊢
      generalize w'.heap.size = X at hc2 ⊢
      clear hc1 hb1 hb3 hix hb hbz c0 c1 c2 hbN hAb
      have hst := range_step (sel := sel) k
      have hsk := hselk k
      refine WC.seq (WC.region ?_)
      refine WL.val rfl rfl (Runs.fld rfl fl29_2) ?_
      refine WL.val rfl rfl (Runs.load rfl na5 (v := .int .u8 (kd k : Int)) (by rw [cell_of hc2]; rfl)) ?_
      refine WL.val rfl rfl (Runs.rem rfl rfl (by decide) (tmod3 (kd k))) ?_
      by_cases h0 : kd k % 3 = 0
      · rw [dtrue h0] at hsk
        rw [hsk, if_neg (by simp), List.append_nil] at hst
        refine WL.val rfl rfl (Runs.neq rfl rfl (r := false) (by rw [h0]; rfl)) ?_
        repeat (first | (refine WL.val ?_ ?_ (Runs.move rfl) ?_; rfl; rfl) | (refine WL.val ?_ ?_ (Runs.assign rfl) ?_; rfl; rfl) | (refine WL.val ?_ ?_ (Runs.extract rfl rfl) ?_; rfl; rfl) | (refine WL.val ?_ ?_ (Runs.nilCheck rfl) ?_; rfl; rfl) | (refine WL.val ?_ ?_ (Runs.pickT rfl rfl) ?_; rfl; rfl) | (refine WL.val ?_ ?_ (Runs.pickF rfl rfl) ?_; rfl; rfl) | (refine WL.val ?_ ?_ (Runs.len rfl sl22) ?_; rfl; rfl) | (refine WL.val ?_ ?_ (Runs.len rfl sl27) ?_; rfl; rfl) | (refine WL.val ?_ ?_ (Runs.len rfl sl37) ?_; rfl; rfl) | (refine WL.pass ?_ ?_ ?_; rfl; rfl))
        refine WL.nil ?_
        repeat (first | refine AtExit.thenRet ?_ | refine AtExit.thenExit ?_ | refine AtExit.blockRet ?_ | refine AtExit.blockEnd ?_ | refine AtExit.blockExit ?_ | (refine AtExit.blockPast ?_ ?_; rfl))
        refine AtExit.go ?_
        refine WC.condF rfl ?_
        refine WC.skip ?_
        repeat (first | refine AtExit.thenRet ?_ | refine AtExit.thenExit ?_ | refine AtExit.blockRet ?_ | refine AtExit.blockEnd ?_ | refine AtExit.blockExit ?_ | (refine AtExit.blockPast ?_ ?_; rfl))
        refine AtExit.go ?_
        refine WC.region ?_
        refine WL.val rfl rfl (Runs.add rfl rfl (r := ((k + 1 : Nat) : Int)) (wI (by omega) (by omega) (by omega))) ?_
        repeat (first | (refine WL.val ?_ ?_ (Runs.move rfl) ?_; rfl; rfl) | (refine WL.val ?_ ?_ (Runs.assign rfl) ?_; rfl; rfl) | (refine WL.val ?_ ?_ (Runs.extract rfl rfl) ?_; rfl; rfl) | (refine WL.val ?_ ?_ (Runs.nilCheck rfl) ?_; rfl; rfl) | (refine WL.val ?_ ?_ (Runs.pickT rfl rfl) ?_; rfl; rfl) | (refine WL.val ?_ ?_ (Runs.pickF rfl rfl) ?_; rfl; rfl) | (refine WL.val ?_ ?_ (Runs.len rfl sl22) ?_; rfl; rfl) | (refine WL.val ?_ ?_ (Runs.len rfl sl27) ?_; rfl; rfl) | (refine WL.val ?_ ?_ (Runs.len rfl sl37) ?_; rfl; rfl) | (refine WL.pass ?_ ?_ ?_; rfl; rfl))
        refine WL.nil ?_
        repeat (first | refine AtExit.thenRet ?_ | refine AtExit.thenExit ?_ | refine AtExit.blockRet ?_ | refine AtExit.blockEnd ?_ | refine AtExit.blockExit ?_ | (refine AtExit.blockPast ?_ ?_; rfl))
        refine AtExit.inv fun a ha => ⟨(k + 1, v), ha.sub (by repeat (first | exact Sub.nil _ | refine Sub.cons rfl ?_)), ⟨by omega, hb4, hz4, by rw [hst]; exact hix3⟩, by show m - (k + 1) < m - k; omega⟩
      · rw [dfalse h0] at hsk
        refine WL.val rfl rfl (Runs.neq rfl rfl (r := true) (by rw [dfalse (by omega)]; rfl)) ?_
        repeat (first | (refine WL.val ?_ ?_ (Runs.move rfl) ?_; rfl; rfl) | (refine WL.val ?_ ?_ (Runs.assign rfl) ?_; rfl; rfl) | (refine WL.val ?_ ?_ (Runs.extract rfl rfl) ?_; rfl; rfl) | (refine WL.val ?_ ?_ (Runs.nilCheck rfl) ?_; rfl; rfl) | (refine WL.val ?_ ?_ (Runs.pickT rfl rfl) ?_; rfl; rfl) | (refine WL.val ?_ ?_ (Runs.pickF rfl rfl) ?_; rfl; rfl) | (refine WL.val ?_ ?_ (Runs.len rfl sl22) ?_; rfl; rfl) | (refine WL.val ?_ ?_ (Runs.len rfl sl27) ?_; rfl; rfl) | (refine WL.val ?_ ?_ (Runs.len rfl sl37) ?_; rfl; rfl) | (refine WL.pass ?_ ?_ ?_; rfl; rfl))
        refine WL.val rfl rfl (Runs.fld rfl fl29_1) ?_
        refine WL.val rfl rfl (Runs.load rfl na2 (v := .int .i64 (dy k)) (by rw [cell_of hc2]; rfl)) ?_
        repeat (first | (refine WL.val ?_ ?_ (Runs.move rfl) ?_; rfl; rfl) | (refine WL.val ?_ ?_ (Runs.assign rfl) ?_; rfl; rfl) | (refine WL.val ?_ ?_ (Runs.extract rfl rfl) ?_; rfl; rfl) | (refine WL.val ?_ ?_ (Runs.nilCheck rfl) ?_; rfl; rfl) | (refine WL.val ?_ ?_ (Runs.pickT rfl rfl) ?_; rfl; rfl) | (refine WL.val ?_ ?_ (Runs.pickF rfl rfl) ?_; rfl; rfl) | (refine WL.val ?_ ?_ (Runs.len rfl sl22) ?_; rfl; rfl) | (refine WL.val ?_ ?_ (Runs.len rfl sl27) ?_; rfl; rfl) | (refine WL.val ?_ ?_ (Runs.len rfl sl37) ?_; rfl; rfl) | (refine WL.pass ?_ ?_ ?_; rfl; rfl))
        refine WL.val rfl rfl (Runs.gtr rfl rfl rfl) ?_
        repeat (first | (refine WL.val ?_ ?_ (Runs.move rfl) ?_; rfl; rfl) | (refine WL.val ?_ ?_ (Runs.assign rfl) ?_; rfl; rfl) | (refine WL.val ?_ ?_ (Runs.extract rfl rfl) ?_; rfl; rfl) | (refine WL.val ?_ ?_ (Runs.nilCheck rfl) ?_; rfl; rfl) | (refine WL.val ?_ ?_ (Runs.pickT rfl rfl) ?_; rfl; rfl) | (refine WL.val ?_ ?_ (Runs.pickF rfl rfl) ?_; rfl; rfl) | (refine WL.val ?_ ?_ (Runs.len rfl sl22) ?_; rfl; rfl) | (refine WL.val ?_ ?_ (Runs.len rfl sl27) ?_; rfl; rfl) | (refine WL.val ?_ ?_ (Runs.len rfl sl37) ?_; rfl; rfl) | (refine WL.pass ?_ ?_ ?_; rfl; rfl))
        refine WL.nil ?_
        repeat (first | refine AtExit.thenRet ?_ | refine AtExit.thenExit ?_ | refine AtExit.blockRet ?_ | refine AtExit.blockEnd ?_ | refine AtExit.blockExit ?_ | (refine AtExit.blockPast ?_ ?_; rfl))
        refine AtExit.go ?_
        by_cases hd : after < dy k
        · rw [dtrue hd] at hsk ⊢
          rw [hsk, if_pos (by decide)] at hst
          refine WC.condT rfl ?_
          obtain ⟨v', w4, hrun, hix4, hb5, hz5⟩ := hix3.add hz4 k (by
            have := List.length_filter_le sel (List.range k)
            rw [List.length_range] at this
            omega)
          refine WC.region ?_
          repeat (first | (refine WL.val ?_ ?_ (Runs.move rfl) ?_; rfl; rfl) | (refine WL.val ?_ ?_ (Runs.assign rfl) ?_; rfl; rfl) | (refine WL.val ?_ ?_ (Runs.extract rfl rfl) ?_; rfl; rfl) | (refine WL.val ?_ ?_ (Runs.nilCheck rfl) ?_; rfl; rfl) | (refine WL.val ?_ ?_ (Runs.pickT rfl rfl) ?_; rfl; rfl) | (refine WL.val ?_ ?_ (Runs.pickF rfl rfl) ?_; rfl; rfl) | (refine WL.val ?_ ?_ (Runs.len rfl sl22) ?_; rfl; rfl) | (refine WL.val ?_ ?_ (Runs.len rfl sl27) ?_; rfl; rfl) | (refine WL.val ?_ ?_ (Runs.len rfl sl37) ?_; rfl; rfl) | (refine WL.pass ?_ ?_ ?_; rfl; rfl))
          refine WL.val rfl rfl (Runs.slice1 rfl rfl Yba.underlying37 in3 rfl) ?_
          refine WL.val rfl rfl (Runs.append rfl hrun) ?_
          repeat (first | (refine WL.val ?_ ?_ (Runs.move rfl) ?_; rfl; rfl) | (refine WL.val ?_ ?_ (Runs.assign rfl) ?_; rfl; rfl) | (refine WL.val ?_ ?_ (Runs.extract rfl rfl) ?_; rfl; rfl) | (refine WL.val ?_ ?_ (Runs.nilCheck rfl) ?_; rfl; rfl) | (refine WL.val ?_ ?_ (Runs.pickT rfl rfl) ?_; rfl; rfl) | (refine WL.val ?_ ?_ (Runs.pickF rfl rfl) ?_; rfl; rfl) | (refine WL.val ?_ ?_ (Runs.len rfl sl22) ?_; rfl; rfl) | (refine WL.val ?_ ?_ (Runs.len rfl sl27) ?_; rfl; rfl) | (refine WL.val ?_ ?_ (Runs.len rfl sl37) ?_; rfl; rfl) | (refine WL.pass ?_ ?_ ?_; rfl; rfl))
          refine WL.nil ?_
          repeat (first | refine AtExit.thenRet ?_ | refine AtExit.thenExit ?_ | refine AtExit.blockRet ?_ | refine AtExit.blockEnd ?_ | refine AtExit.blockExit ?_ | (refine AtExit.blockPast ?_ ?_; rfl))
          refine AtExit.go ?_
          refine WC.region ?_
          refine WL.val rfl rfl (Runs.add rfl rfl (r := ((k + 1 : Nat) : Int)) (wI (by omega) (by omega) (by omega))) ?_
          repeat (first | (refine WL.val ?_ ?_ (Runs.move rfl) ?_; rfl; rfl) | (refine WL.val ?_ ?_ (Runs.assign rfl) ?_; rfl; rfl) | (refine WL.val ?_ ?_ (Runs.extract rfl rfl) ?_; rfl; rfl) | (refine WL.val ?_ ?_ (Runs.nilCheck rfl) ?_; rfl; rfl) | (refine WL.val ?_ ?_ (Runs.pickT rfl rfl) ?_; rfl; rfl) | (refine WL.val ?_ ?_ (Runs.pickF rfl rfl) ?_; rfl; rfl) | (refine WL.val ?_ ?_ (Runs.len rfl sl22) ?_; rfl; rfl) | (refine WL.val ?_ ?_ (Runs.len rfl sl27) ?_; rfl; rfl) | (refine WL.val ?_ ?_ (Runs.len rfl sl37) ?_; rfl; rfl) | (refine WL.pass ?_ ?_ ?_; rfl; rfl))
          refine WL.nil ?_
          repeat (first | refine AtExit.thenRet ?_ | refine AtExit.thenExit ?_ | refine AtExit.blockRet ?_ | refine AtExit.blockEnd ?_ | refine AtExit.blockExit ?_ | (refine AtExit.blockPast ?_ ?_; rfl))
          refine AtExit.inv fun a ha => ⟨(k + 1, v'), ha.sub (by repeat (first | exact Sub.nil _ | refine Sub.cons rfl ?_)), ⟨by omega, hb4.trans hb5, hz5, by rw [hst]; exact hix4⟩, by show m - (k + 1) < m - k; omega⟩
        · rw [dfalse hd] at hsk ⊢
          rw [hsk, if_neg (by decide), List.append_nil] at hst
          refine WC.condF rfl ?_
          refine WC.skip ?_
          repeat (first | refine AtExit.thenRet ?_ | refine AtExit.thenExit ?_ | refine AtExit.blockRet ?_ | refine AtExit.blockEnd ?_ | refine AtExit.blockExit ?_ | (refine AtExit.blockPast ?_ ?_; rfl))
          refine AtExit.go ?_
          refine WC.region ?_
          refine WL.val rfl rfl (Runs.add rfl rfl (r := ((k + 1 : Nat) : Int)) (wI (by omega) (by omega) (by omega))) ?_
          repeat (first | (refine WL.val ?_ ?_ (Runs.move rfl) ?_; rfl; rfl) | (refine WL.val ?_ ?_ (Runs.assign rfl) ?_; rfl; rfl) | (refine WL.val ?_ ?_ (Runs.extract rfl rfl) ?_; rfl; rfl) | (refine WL.val ?_ ?_ (Runs.nilCheck rfl) ?_; rfl; rfl) | (refine WL.val ?_ ?_ (Runs.pickT rfl rfl) ?_; rfl; rfl) | (refine WL.val ?_ ?_ (Runs.pickF rfl rfl) ?_; rfl; rfl) | (refine WL.val ?_ ?_ (Runs.len rfl sl22) ?_; rfl; rfl) | (refine WL.val ?_ ?_ (Runs.len rfl sl27) ?_; rfl; rfl) | (refine WL.val ?_ ?_ (Runs.len rfl sl37) ?_; rfl; rfl) | (refine WL.pass ?_ ?_ ?_; rfl; rfl))
          refine WL.nil ?_
          repeat (first | refine AtExit.thenRet ?_ | refine AtExit.thenExit ?_ | refine AtExit.blockRet ?_ | refine AtExit.blockEnd ?_ | refine AtExit.blockExit ?_ | (refine AtExit.blockPast ?_ ?_; rfl))
          refine AtExit.inv fun a ha => ⟨(k + 1, v), ha.sub (by repeat (first | exact Sub.nil _ | refine Sub.cons rfl ?_)), ⟨by omega, hb4, hz4, by rw [hst]; exact hix3⟩, by show m - (k + 1) < m - k; omega⟩
    · refine WL.val rfl rfl (Runs.lss rfl rfl (decge hkm)) ?_
      refine WL.nil ?_
      repeat (first | refine AtExit.thenRet ?_ | refine AtExit.thenExit ?_ | refine AtExit.blockRet ?_ | refine AtExit.blockEnd ?_ | refine AtExit.blockExit ?_ | (refine AtExit.blockPast ?_ ?_; rfl))
      refine AtExit.go ?_
      refine WC.seq (WC.condF rfl ?_)
      have hke : k = m := by omega
      subst hke
      refine WC.exit ?_
      repeat (first | refine AtExit.thenRet ?_ | refine AtExit.thenExit ?_ | refine AtExit.blockRet ?_ | refine AtExit.blockEnd ?_ | refine AtExit.blockExit ?_ | (refine AtExit.blockPast ?_ ?_; rfl))
      refine AtExit.inv fun a ha => ⟨v, ha.sub (by repeat (first | exact Sub.nil _ | refine Sub.cons rfl ?_)), hb, hbz, hix⟩
  rintro v w3 ⟨hb3, hz3, hix3⟩
  generalize hJ : (List.range m).filter sel = J at hix3
  have hJm : ∀ x ∈ J, x < m := fun x hx => by
    rw [← hJ] at hx
    exact List.mem_range.1 (List.mem_filter.1 hx).1
  have hJlo : J.Pairwise (· < ·) := by rw [← hJ]; exact List.pairwise_lt_range.filter _
  obtain ⟨p, cv, hv⟩ := hix3.shape
  subst hv
  generalize hn : J.length = n at hix3
  have hJn : n ≤ 4096 := by
    rw [← hn, ← hJ]
    have := List.length_filter_le sel (List.range m)
    rw [List.length_range] at this
    omega
  have hRix : ∀ i, (R i).ix = i := fun i => by rw [← hR]; rfl
  have hRdy : ∀ i, (R i).day = dy i := fun i => by rw [← hR]; rfl
  refine WC.cut (α := List Nat) (fun _ => [(0, .slice A m Ca), (1, .int .i64 after), (7, .slice (some ⟨B + 2, 0, none⟩) m m), (11, .slice (some ⟨D, 0, none⟩) m m), (12, .slice p n cv)])
    (fun J' w' => Below base w2 w' ∧ base ≤ w'.heap.size ∧ Ix w' base (.slice p n cv) J' ∧ J'.Perm J ∧ (J'.map R).Pairwise lx) ?_ ?_
  · refine WC.seq (WC.region ?_)
    repeat (first | (refine WL.val ?_ ?_ (Runs.move rfl) ?_; rfl; rfl) | (refine WL.val ?_ ?_ (Runs.assign rfl) ?_; rfl; rfl) | (refine WL.val ?_ ?_ (Runs.extract rfl rfl) ?_; rfl; rfl) | (refine WL.val ?_ ?_ (Runs.nilCheck rfl) ?_; rfl; rfl) | (refine WL.val ?_ ?_ (Runs.pickT rfl rfl) ?_; rfl; rfl) | (refine WL.val ?_ ?_ (Runs.pickF rfl rfl) ?_; rfl; rfl) | (refine WL.val ?_ ?_ (Runs.len rfl sl22) ?_; rfl; rfl) | (refine WL.val ?_ ?_ (Runs.len rfl sl27) ?_; rfl; rfl) | (refine WL.val ?_ ?_ (Runs.len rfl sl37) ?_; rfl; rfl) | (refine WL.pass ?_ ?_ ?_; rfl; rfl))
    refine WL.nil ?_
    repeat (first | refine AtExit.thenRet ?_ | refine AtExit.thenExit ?_ | refine AtExit.blockRet ?_ | refine AtExit.blockEnd ?_ | refine AtExit.blockExit ?_ | (refine AtExit.blockPast ?_ ?_; rfl))
    refine AtExit.go ?_
    refine WC.block ?_
    refine WC.loop (α := Nat × List Nat) (fun | (c, _) => [(0, .slice A m Ca), (1, .int .i64 after), (7, .slice (some ⟨B + 2, 0, none⟩) m m), (11, .slice (some ⟨D, 0, none⟩) m m), (12, .slice p n cv), (15, .int .i64 (c : Int))])
      (fun | (c, C) => fun w' => 1 ≤ c ∧ Below base w2 w' ∧ base ≤ w'.heap.size ∧ Ix w' base (.slice p n cv) (C ++ J.drop c) ∧ C.Perm (J.take c) ∧ (C.map R).Pairwise lx) (fun | (c, _) => n - c) (1, J.take 1) (by repeat (first | exact Sub.nil _ | refine Sub.cons rfl ?_))
      ⟨Nat.le_refl _, hb3, hz3, by rw [List.take_append_drop]; exact hix3, List.Perm.refl _, small_sorted (by simp; omega)⟩ ?_
    clear hix3 hb3 hz3 w3
    rintro ⟨c, C⟩ w' ⟨hc1, hb, hbz, hix, hp, hsrt⟩
    refine WC.seq ?_
    refine WC.seq (WC.region ?_)
    repeat (first | (refine WL.val ?_ ?_ (Runs.move rfl) ?_; rfl; rfl) | (refine WL.val ?_ ?_ (Runs.assign rfl) ?_; rfl; rfl) | (refine WL.val ?_ ?_ (Runs.extract rfl rfl) ?_; rfl; rfl) | (refine WL.val ?_ ?_ (Runs.nilCheck rfl) ?_; rfl; rfl) | (refine WL.val ?_ ?_ (Runs.pickT rfl rfl) ?_; rfl; rfl) | (refine WL.val ?_ ?_ (Runs.pickF rfl rfl) ?_; rfl; rfl) | (refine WL.val ?_ ?_ (Runs.len rfl sl22) ?_; rfl; rfl) | (refine WL.val ?_ ?_ (Runs.len rfl sl27) ?_; rfl; rfl) | (refine WL.val ?_ ?_ (Runs.len rfl sl37) ?_; rfl; rfl) | (refine WL.pass ?_ ?_ ?_; rfl; rfl))
    by_cases hcn : c < n
    · refine WL.val rfl rfl (Runs.lss rfl rfl (declt hcn)) ?_
      refine WL.nil ?_
      repeat (first | refine AtExit.thenRet ?_ | refine AtExit.thenExit ?_ | refine AtExit.blockRet ?_ | refine AtExit.blockEnd ?_ | refine AtExit.blockExit ?_ | (refine AtExit.blockPast ?_ ?_; rfl))
      refine AtExit.go ?_
      refine WC.condT rfl ?_
      refine WC.skip ?_
      repeat (first | refine AtExit.thenRet ?_ | refine AtExit.thenExit ?_ | refine AtExit.blockRet ?_ | refine AtExit.blockEnd ?_ | refine AtExit.blockExit ?_ | (refine AtExit.blockPast ?_ ?_; rfl))
      refine AtExit.go ?_
      obtain ⟨x, hx⟩ : ∃ x, J[c]? = some x := ⟨_, List.getElem?_eq_getElem (by omega)⟩
      have hxJ : x ∈ J := List.mem_of_getElem? hx
      have hdx : J.drop c = x :: J.drop (c + 1) := by
        have hi : c < J.length := by omega
        rw [List.drop_eq_getElem_cons hi, (List.getElem?_eq_some_iff.1 hx).2]
      have htx : J.take (c + 1) = J.take c ++ [x] := by rw [List.take_add_one, hx]; rfl
      have hCl : C.length = c := by rw [hp.length_eq, List.length_take]; omega
      have hCx : ∀ y ∈ C, y < x := fun y hy => by
        have h := hJlo
        rw [← List.take_append_drop c J, List.pairwise_append, hdx] at h
        exact h.2.2 y (hp.mem_iff.1 hy) x (by simp)
      have hCJ : ∀ y ∈ C, y ∈ J := fun y hy => List.mem_of_mem_take (hp.mem_iff.1 hy)
      rw [hdx] at hix
      refine WC.cut (α := List Nat) (fun _ => [(0, .slice A m Ca), (1, .int .i64 after), (7, .slice (some ⟨B + 2, 0, none⟩) m m), (11, .slice (some ⟨D, 0, none⟩) m m), (12, .slice p n cv), (15, .int .i64 (c : Int))])
        (fun C' w' => Below base w2 w' ∧ base ≤ w'.heap.size ∧ Ix w' base (.slice p n cv) (C' ++ J.drop (c + 1)) ∧ C'.Perm (J.take (c + 1)) ∧ (C'.map R).Pairwise lx) ?_ ?_
      · refine WC.block ?_
        refine WC.seq (WC.region ?_)
        repeat (first | (refine WL.val ?_ ?_ (Runs.move rfl) ?_; rfl; rfl) | (refine WL.val ?_ ?_ (Runs.assign rfl) ?_; rfl; rfl) | (refine WL.val ?_ ?_ (Runs.extract rfl rfl) ?_; rfl; rfl) | (refine WL.val ?_ ?_ (Runs.nilCheck rfl) ?_; rfl; rfl) | (refine WL.val ?_ ?_ (Runs.pickT rfl rfl) ?_; rfl; rfl) | (refine WL.val ?_ ?_ (Runs.pickF rfl rfl) ?_; rfl; rfl) | (refine WL.val ?_ ?_ (Runs.len rfl sl22) ?_; rfl; rfl) | (refine WL.val ?_ ?_ (Runs.len rfl sl27) ?_; rfl; rfl) | (refine WL.val ?_ ?_ (Runs.len rfl sl37) ?_; rfl; rfl) | (refine WL.pass ?_ ?_ ?_; rfl; rfl))
        refine WL.nil ?_
        repeat (first | refine AtExit.thenRet ?_ | refine AtExit.thenExit ?_ | refine AtExit.blockRet ?_ | refine AtExit.blockEnd ?_ | refine AtExit.blockExit ?_ | (refine AtExit.blockPast ?_ ?_; rfl))
        refine AtExit.go ?_
        refine WC.block ?_
        refine WC.loop (α := List Nat × List Nat) (fun | (C1, _) => [(0, .slice A m Ca), (1, .int .i64 after), (7, .slice (some ⟨B + 2, 0, none⟩) m m), (11, .slice (some ⟨D, 0, none⟩) m m), (12, .slice p n cv), (15, .int .i64 (c : Int)), (16, .int .i64 (C1.length : Int))])
          (fun | (C1, C2) => fun w' => Below base w2 w' ∧ base ≤ w'.heap.size ∧ Ix w' base (.slice p n cv) (C1 ++ x :: C2 ++ J.drop (c + 1)) ∧ C1 ++ C2 = C ∧ (∀ y ∈ C2, dy x < dy y)) (fun | (C1, _) => C1.length) (C, [])
          (by
            show Fr.Sub [(0, .slice A m Ca), (1, .int .i64 after), (7, .slice (some ⟨B + 2, 0, none⟩) m m), (11, .slice (some ⟨D, 0, none⟩) m m), (12, .slice p n cv), (15, .int .i64 (c : Int)), (16, .int .i64 (C.length : Int))] _
            rw [hCl]
            exact (by repeat (first | exact Sub.nil _ | refine Sub.cons rfl ?_))) ⟨hb, hbz, by simpa using hix, by simp, by simp⟩ ?_
        clear hix hb hbz
        rintro ⟨C1, C2⟩ w' ⟨hb, hbz, hix, hCC, hlt⟩
        have hCCl : C1.length + C2.length = c := by rw [← hCl, ← hCC, List.length_append]
        have hL : (C1 ++ x :: C2 ++ J.drop (c + 1)).length = n := by
          rw [List.length_append, List.length_append, List.length_cons, List.length_drop]; omega
        have fin : (∀ y ∈ C1, dy y ≤ dy x) → (C1 ++ x :: C2).Perm (J.take (c + 1)) ∧ ((C1 ++ x :: C2).map R).Pairwise lx := fun h1 => by
          constructor
          · rw [htx]
            refine List.perm_middle.trans ?_
            rw [hCC]
            exact (List.Perm.cons x hp).trans (List.perm_append_singleton x _).symm
          · rw [List.map_append, List.map_cons]
            refine ins_end (by rw [← List.map_append, hCC]; exact hsrt) (fun y hy => ?_) (fun y hy => ?_)
            · obtain ⟨i, hi, rfl⟩ := List.mem_map.1 hy
              have a1 := h1 i hi
              have a2 := hCx i (by rw [← hCC]; exact List.mem_append_left _ hi)
              unfold lx
              rw [hRdy, hRdy, hRix, hRix]; omega
            · obtain ⟨i, hi, rfl⟩ := List.mem_map.1 hy
              have a1 := hlt i hi
              unfold lx
              rw [hRdy, hRdy]; omega
        refine WC.seq ?_
        refine WC.seq (WC.quiet (fun wq => Below w'.heap.size w' wq) mixed (by kernel_rfl) (below_drawn _ _ _) ?_)
        repeat (first | (refine QL.val ?_ ?_ (fun wq hC => Runs.move rfl) ?_; rfl; rfl) | (refine QL.val ?_ ?_ (fun wq hC => Runs.assign rfl) ?_; rfl; rfl) | (refine QL.val ?_ ?_ (fun wq hC => Runs.extract rfl rfl) ?_; rfl; rfl) | (refine QL.val ?_ ?_ (fun wq hC => Runs.nilCheck rfl) ?_; rfl; rfl) | (refine QL.val ?_ ?_ (fun wq hC => Runs.pickT rfl rfl) ?_; rfl; rfl) | (refine QL.val ?_ ?_ (fun wq hC => Runs.pickF rfl rfl) ?_; rfl; rfl) | (refine QL.val ?_ ?_ (fun wq hC => Runs.len rfl sl22) ?_; rfl; rfl) | (refine QL.val ?_ ?_ (fun wq hC => Runs.len rfl sl27) ?_; rfl; rfl) | (refine QL.val ?_ ?_ (fun wq hC => Runs.len rfl sl37) ?_; rfl; rfl) | (refine QL.pass ?_ ?_ ?_; rfl; rfl))
        rcases List.eq_nil_or_concat C1 with hnil | ⟨C3, z, hcon⟩
        · subst hnil
          refine QL.val rfl rfl (fun wq hC => Runs.gtr rfl rfl (r := false) (dfalse (by simp))) ?_
          repeat (first | (refine QL.val ?_ ?_ (fun wq hC => Runs.move rfl) ?_; rfl; rfl) | (refine QL.val ?_ ?_ (fun wq hC => Runs.assign rfl) ?_; rfl; rfl) | (refine QL.val ?_ ?_ (fun wq hC => Runs.extract rfl rfl) ?_; rfl; rfl) | (refine QL.val ?_ ?_ (fun wq hC => Runs.nilCheck rfl) ?_; rfl; rfl) | (refine QL.val ?_ ?_ (fun wq hC => Runs.pickT rfl rfl) ?_; rfl; rfl) | (refine QL.val ?_ ?_ (fun wq hC => Runs.pickF rfl rfl) ?_; rfl; rfl) | (refine QL.val ?_ ?_ (fun wq hC => Runs.len rfl sl22) ?_; rfl; rfl) | (refine QL.val ?_ ?_ (fun wq hC => Runs.len rfl sl27) ?_; rfl; rfl) | (refine QL.val ?_ ?_ (fun wq hC => Runs.len rfl sl37) ?_; rfl; rfl) | (refine QL.pass ?_ ?_ ?_; rfl; rfl))
          refine QL.nil fun wq hC => ?_
          repeat (first | refine AtExit.thenRet ?_ | refine AtExit.thenExit ?_ | refine AtExit.blockRet ?_ | refine AtExit.blockEnd ?_ | refine AtExit.blockExit ?_ | (refine AtExit.blockPast ?_ ?_; rfl))
          refine AtExit.go ?_
          refine WC.condF rfl ?_
          obtain ⟨f1, f2⟩ := fin (by simp)
          refine WC.exit ?_
          repeat (first | refine AtExit.thenRet ?_ | refine AtExit.thenExit ?_ | refine AtExit.blockRet ?_ | refine AtExit.blockEnd ?_ | refine AtExit.blockExit ?_ | (refine AtExit.blockPast ?_ ?_; rfl))
          refine AtExit.inv fun av hv => ⟨_, hv.sub (by repeat (first | exact Sub.nil _ | refine Sub.cons rfl ?_)), hb.trans (hC.mono hbz), Nat.le_trans hbz hC.size, hix.below hC, f1, f2⟩
        · rw [List.concat_eq_append] at hcon
          subst hcon
          have hz1 : (C3 ++ [z]).length = C3.length + 1 := by simp
          have hzJ : z ∈ J := hCJ z (by rw [← hCC]; simp)
          have hxm := hJm x hxJ
          have hzm := hJm z hzJ
          rw [← hL] at hix
          obtain ⟨g, cap', cur, hveq, hgb, hgh, _⟩ := hix.row (by omega)
          obtain ⟨hp', hc'⟩ : p = some ⟨g, 0, none⟩ ∧ cv = cap' := by
            simp only [Value.slice.injEq] at hveq
            exact ⟨hveq.1, hveq.2.2⟩
          subst hp' hc'
          have eL : C3 ++ [z] ++ x :: C2 ++ J.drop (c + 1) = C3 ++ z :: x :: (C2 ++ J.drop (c + 1)) := by simp
          have gx : (C3 ++ [z] ++ x :: C2 ++ J.drop (c + 1))[C3.length + 1]? = some x := by
            rw [eL, show C3 ++ z :: x :: (C2 ++ J.drop (c + 1)) = (C3 ++ [z]) ++ x :: (C2 ++ J.drop (c + 1)) from by simp]
            exact get_n _ _ _ _ (by simp)
          have gz : (C3 ++ [z] ++ x :: C2 ++ J.drop (c + 1))[C3.length]? = some z := by rw [eL]; exact get_n _ _ _ _ rfl
          obtain ⟨bx, ox, hAx, hbx, _, cx, _⟩ := hA x hxm
          obtain ⟨bz, oz, hAz, hbzz, _, cz, _⟩ := hA z hzm
          have bel : ∀ wq, Below w'.heap.size w' wq → Below B w wq := fun wq h => (hb2.trans (hb.mono (by omega))).trans (h.mono (by omega))
          refine QL.val rfl rfl (fun wq hC => Runs.gtr rfl rfl (r := true) (dtrue (by rw [hz1]; omega))) ?_
          repeat (first | (refine QL.val ?_ ?_ (fun wq hC => Runs.move rfl) ?_; rfl; rfl) | (refine QL.val ?_ ?_ (fun wq hC => Runs.assign rfl) ?_; rfl; rfl) | (refine QL.val ?_ ?_ (fun wq hC => Runs.extract rfl rfl) ?_; rfl; rfl) | (refine QL.val ?_ ?_ (fun wq hC => Runs.nilCheck rfl) ?_; rfl; rfl) | (refine QL.val ?_ ?_ (fun wq hC => Runs.pickT rfl rfl) ?_; rfl; rfl) | (refine QL.val ?_ ?_ (fun wq hC => Runs.pickF rfl rfl) ?_; rfl; rfl) | (refine QL.val ?_ ?_ (fun wq hC => Runs.len rfl sl22) ?_; rfl; rfl) | (refine QL.val ?_ ?_ (fun wq hC => Runs.len rfl sl27) ?_; rfl; rfl) | (refine QL.val ?_ ?_ (fun wq hC => Runs.len rfl sl37) ?_; rfl; rfl) | (refine QL.pass ?_ ?_ ?_; rfl; rfl))
          refine QL.val rfl rfl (fun wq hC => Runs.idx1 rfl rfl Yba.underlying37 sz3 (m := C3.length + 1) (by rw [hz1]) (by omega)) ?_
          refine QL.val rfl rfl (fun wq hC => Runs.load rfl na3 ((hix.below hC).cell gx)) ?_
          refine QL.val rfl rfl (fun wq hC => Runs.idxK hAx rfl rfl Yba.underlying22 sz29 rfl hxm) ?_
          refine QL.val rfl rfl (fun wq hC => Runs.fld rfl fl29_1) ?_
          refine QL.val rfl rfl (fun wq hC => Runs.load rfl na2 (((bel wq hC).cell (p := ⟨bx, ox + x * 3 + 1, none⟩) hbx).trans cx)) ?_
          repeat (first | (refine QL.val ?_ ?_ (fun wq hC => Runs.move rfl) ?_; rfl; rfl) | (refine QL.val ?_ ?_ (fun wq hC => Runs.assign rfl) ?_; rfl; rfl) | (refine QL.val ?_ ?_ (fun wq hC => Runs.extract rfl rfl) ?_; rfl; rfl) | (refine QL.val ?_ ?_ (fun wq hC => Runs.nilCheck rfl) ?_; rfl; rfl) | (refine QL.val ?_ ?_ (fun wq hC => Runs.pickT rfl rfl) ?_; rfl; rfl) | (refine QL.val ?_ ?_ (fun wq hC => Runs.pickF rfl rfl) ?_; rfl; rfl) | (refine QL.val ?_ ?_ (fun wq hC => Runs.len rfl sl22) ?_; rfl; rfl) | (refine QL.val ?_ ?_ (fun wq hC => Runs.len rfl sl27) ?_; rfl; rfl) | (refine QL.val ?_ ?_ (fun wq hC => Runs.len rfl sl37) ?_; rfl; rfl) | (refine QL.pass ?_ ?_ ?_; rfl; rfl))
          refine QL.val rfl rfl (fun wq hC => Runs.sub rfl rfl (r := (C3.length : Int)) (wI (by rw [hz1]; omega) (by omega) (by omega))) ?_
          refine QL.val rfl rfl (fun wq hC => Runs.idx1 rfl rfl Yba.underlying37 sz3 rfl (by omega)) ?_
          refine QL.val rfl rfl (fun wq hC => Runs.load rfl na3 ((hix.below hC).cell gz)) ?_
          refine QL.val rfl rfl (fun wq hC => Runs.idxK hAz rfl rfl Yba.underlying22 sz29 rfl hzm) ?_
          refine QL.val rfl rfl (fun wq hC => Runs.fld rfl fl29_1) ?_
          refine QL.val rfl rfl (fun wq hC => Runs.load rfl na2 (((bel wq hC).cell (p := ⟨bz, oz + z * 3 + 1, none⟩) hbzz).trans cz)) ?_
          refine QL.val rfl rfl (fun wq hC => Runs.lss rfl rfl rfl) ?_
          repeat (first | (refine QL.val ?_ ?_ (fun wq hC => Runs.move rfl) ?_; rfl; rfl) | (refine QL.val ?_ ?_ (fun wq hC => Runs.assign rfl) ?_; rfl; rfl) | (refine QL.val ?_ ?_ (fun wq hC => Runs.extract rfl rfl) ?_; rfl; rfl) | (refine QL.val ?_ ?_ (fun wq hC => Runs.nilCheck rfl) ?_; rfl; rfl) | (refine QL.val ?_ ?_ (fun wq hC => Runs.pickT rfl rfl) ?_; rfl; rfl) | (refine QL.val ?_ ?_ (fun wq hC => Runs.pickF rfl rfl) ?_; rfl; rfl) | (refine QL.val ?_ ?_ (fun wq hC => Runs.len rfl sl22) ?_; rfl; rfl) | (refine QL.val ?_ ?_ (fun wq hC => Runs.len rfl sl27) ?_; rfl; rfl) | (refine QL.val ?_ ?_ (fun wq hC => Runs.len rfl sl37) ?_; rfl; rfl) | (refine QL.pass ?_ ?_ ?_; rfl; rfl))
          refine QL.nil fun wq hC => ?_
          repeat (first | refine AtExit.thenRet ?_ | refine AtExit.thenExit ?_ | refine AtExit.blockRet ?_ | refine AtExit.blockEnd ?_ | refine AtExit.blockExit ?_ | (refine AtExit.blockPast ?_ ?_; rfl))
          refine AtExit.go ?_
          have hix5 := hix.below hC
          have hb5 := hb.trans (hC.mono hbz)
          have hz5 := Nat.le_trans hbz hC.size
          refine WC.split rfl (fun hd => ?_) (fun hd => ?_)
          · have hd := of_decide_eq_true hd
            refine WC.skip ?_
            repeat (first | refine AtExit.thenRet ?_ | refine AtExit.thenExit ?_ | refine AtExit.blockRet ?_ | refine AtExit.blockEnd ?_ | refine AtExit.blockExit ?_ | (refine AtExit.blockPast ?_ ?_; rfl))
            refine AtExit.go ?_
            refine WC.seq (WC.block ?_)
            refine WC.seq (WC.region ?_)
            repeat (first | (refine WL.val ?_ ?_ (Runs.move rfl) ?_; rfl; rfl) | (refine WL.val ?_ ?_ (Runs.assign rfl) ?_; rfl; rfl) | (refine WL.val ?_ ?_ (Runs.extract rfl rfl) ?_; rfl; rfl) | (refine WL.val ?_ ?_ (Runs.nilCheck rfl) ?_; rfl; rfl) | (refine WL.val ?_ ?_ (Runs.pickT rfl rfl) ?_; rfl; rfl) | (refine WL.val ?_ ?_ (Runs.pickF rfl rfl) ?_; rfl; rfl) | (refine WL.val ?_ ?_ (Runs.len rfl sl22) ?_; rfl; rfl) | (refine WL.val ?_ ?_ (Runs.len rfl sl27) ?_; rfl; rfl) | (refine WL.val ?_ ?_ (Runs.len rfl sl37) ?_; rfl; rfl) | (refine WL.pass ?_ ?_ ?_; rfl; rfl))
            refine WL.val rfl rfl (Runs.idx1 rfl rfl Yba.underlying37 sz3 (m := C3.length + 1) (by rw [hz1]) (by omega)) ?_
            refine WL.val rfl rfl (Runs.load rfl na3 (hix5.cell gx)) ?_
            repeat (first | (refine WL.val ?_ ?_ (Runs.move rfl) ?_; rfl; rfl) | (refine WL.val ?_ ?_ (Runs.assign rfl) ?_; rfl; rfl) | (refine WL.val ?_ ?_ (Runs.extract rfl rfl) ?_; rfl; rfl) | (refine WL.val ?_ ?_ (Runs.nilCheck rfl) ?_; rfl; rfl) | (refine WL.val ?_ ?_ (Runs.pickT rfl rfl) ?_; rfl; rfl) | (refine WL.val ?_ ?_ (Runs.pickF rfl rfl) ?_; rfl; rfl) | (refine WL.val ?_ ?_ (Runs.len rfl sl22) ?_; rfl; rfl) | (refine WL.val ?_ ?_ (Runs.len rfl sl27) ?_; rfl; rfl) | (refine WL.val ?_ ?_ (Runs.len rfl sl37) ?_; rfl; rfl) | (refine WL.pass ?_ ?_ ?_; rfl; rfl))
            refine WL.nil ?_
            repeat (first | refine AtExit.thenRet ?_ | refine AtExit.thenExit ?_ | refine AtExit.blockRet ?_ | refine AtExit.blockEnd ?_ | refine AtExit.blockExit ?_ | (refine AtExit.blockPast ?_ ?_; rfl))
            refine AtExit.go ?_
            refine WC.seq (WC.region ?_)
            repeat (first | (refine WL.val ?_ ?_ (Runs.move rfl) ?_; rfl; rfl) | (refine WL.val ?_ ?_ (Runs.assign rfl) ?_; rfl; rfl) | (refine WL.val ?_ ?_ (Runs.extract rfl rfl) ?_; rfl; rfl) | (refine WL.val ?_ ?_ (Runs.nilCheck rfl) ?_; rfl; rfl) | (refine WL.val ?_ ?_ (Runs.pickT rfl rfl) ?_; rfl; rfl) | (refine WL.val ?_ ?_ (Runs.pickF rfl rfl) ?_; rfl; rfl) | (refine WL.val ?_ ?_ (Runs.len rfl sl22) ?_; rfl; rfl) | (refine WL.val ?_ ?_ (Runs.len rfl sl27) ?_; rfl; rfl) | (refine WL.val ?_ ?_ (Runs.len rfl sl37) ?_; rfl; rfl) | (refine WL.pass ?_ ?_ ?_; rfl; rfl))
            refine WL.val rfl rfl (Runs.sub rfl rfl (r := (C3.length : Int)) (wI (by rw [hz1]; omega) (by omega) (by omega))) ?_
            refine WL.val rfl rfl (Runs.idx1 rfl rfl Yba.underlying37 sz3 rfl (by omega)) ?_
            refine WL.val rfl rfl (Runs.load rfl na3 (hix5.cell gz)) ?_
            refine WL.val rfl rfl (Runs.idx1 rfl rfl Yba.underlying37 sz3 (m := C3.length + 1) (by rw [hz1]) (by omega)) ?_
            refine WL.skip rfl (RunsS.store rfl rfl rfl sz3 (hix5.cell gx) (hix5.frozen (by omega) _)) ?_
            refine WL.nil ?_
            repeat (first | refine AtExit.thenRet ?_ | refine AtExit.thenExit ?_ | refine AtExit.blockRet ?_ | refine AtExit.blockEnd ?_ | refine AtExit.blockExit ?_ | (refine AtExit.blockPast ?_ ?_; rfl))
            refine AtExit.go ?_
            have hix6 := hix5.set (C3.length + 1) z
            have gz6 : ((C3 ++ [z] ++ x :: C2 ++ J.drop (c + 1)).set (C3.length + 1) z)[C3.length]? = some z := by
              rw [List.getElem?_set_ne (by omega)]; exact gz
            have hb6 := hb5.trans (below_set wq (a := ⟨g, 0 + (C3.length + 1), none⟩) (iv z) hgb)
            have hz6 : base ≤ (wq.setCell ⟨g, 0 + (C3.length + 1), none⟩ (iv z)).heap.size := by rw [size_set]; exact hz5
            change WC _ _ _ _ _ (wq.setCell ⟨g, 0 + (C3.length + 1), none⟩ (iv z))
            generalize wq.setCell ⟨g, 0 + (C3.length + 1), none⟩ (iv z) = w6 at hix6 hb6 hz6 ⊢
            refine WC.region ?_
            repeat (first | (refine WL.val ?_ ?_ (Runs.move rfl) ?_; rfl; rfl) | (refine WL.val ?_ ?_ (Runs.assign rfl) ?_; rfl; rfl) | (refine WL.val ?_ ?_ (Runs.extract rfl rfl) ?_; rfl; rfl) | (refine WL.val ?_ ?_ (Runs.nilCheck rfl) ?_; rfl; rfl) | (refine WL.val ?_ ?_ (Runs.pickT rfl rfl) ?_; rfl; rfl) | (refine WL.val ?_ ?_ (Runs.pickF rfl rfl) ?_; rfl; rfl) | (refine WL.val ?_ ?_ (Runs.len rfl sl22) ?_; rfl; rfl) | (refine WL.val ?_ ?_ (Runs.len rfl sl27) ?_; rfl; rfl) | (refine WL.val ?_ ?_ (Runs.len rfl sl37) ?_; rfl; rfl) | (refine WL.pass ?_ ?_ ?_; rfl; rfl))
            refine WL.val rfl rfl (Runs.sub rfl rfl (r := (C3.length : Int)) (wI (by rw [hz1]; omega) (by omega) (by omega))) ?_
            repeat (first | (refine WL.val ?_ ?_ (Runs.move rfl) ?_; rfl; rfl) | (refine WL.val ?_ ?_ (Runs.assign rfl) ?_; rfl; rfl) | (refine WL.val ?_ ?_ (Runs.extract rfl rfl) ?_; rfl; rfl) | (refine WL.val ?_ ?_ (Runs.nilCheck rfl) ?_; rfl; rfl) | (refine WL.val ?_ ?_ (Runs.pickT rfl rfl) ?_; rfl; rfl) | (refine WL.val ?_ ?_ (Runs.pickF rfl rfl) ?_; rfl; rfl) | (refine WL.val ?_ ?_ (Runs.len rfl sl22) ?_; rfl; rfl) | (refine WL.val ?_ ?_ (Runs.len rfl sl27) ?_; rfl; rfl) | (refine WL.val ?_ ?_ (Runs.len rfl sl37) ?_; rfl; rfl) | (refine WL.pass ?_ ?_ ?_; rfl; rfl))
            refine WL.val rfl rfl (Runs.idx1 rfl rfl Yba.underlying37 sz3 rfl (by omega)) ?_
            refine WL.skip rfl (RunsS.store rfl rfl rfl sz3 (hix6.cell gz6) (hix6.frozen (by rw [List.length_set]; omega) _)) ?_
            refine WL.nil ?_
            repeat (first | refine AtExit.thenRet ?_ | refine AtExit.thenExit ?_ | refine AtExit.blockRet ?_ | refine AtExit.blockEnd ?_ | refine AtExit.blockExit ?_ | (refine AtExit.blockPast ?_ ?_; rfl))
            refine AtExit.go ?_
            have hix7 := hix6.set C3.length x
            have hb7 := hb6.trans (below_set w6 (a := ⟨g, 0 + C3.length, none⟩) (iv x) hgb)
            have hz7 : base ≤ (w6.setCell ⟨g, 0 + C3.length, none⟩ (iv x)).heap.size := by rw [size_set]; exact hz6
            have eS : ((C3 ++ [z] ++ x :: C2 ++ J.drop (c + 1)).set (C3.length + 1) z).set C3.length x = C3 ++ x :: (z :: C2) ++ J.drop (c + 1) := by
              rw [eL, set_two _ _ _ _ _ rfl]; simp
            rw [eS] at hix7
            have hL7 : (C3 ++ x :: (z :: C2) ++ J.drop (c + 1)).length = n := by
              rw [← hL]; simp
            rw [hL7] at hix7
            refine WC.region ?_
            repeat (first | (refine WL.val ?_ ?_ (Runs.move rfl) ?_; rfl; rfl) | (refine WL.val ?_ ?_ (Runs.assign rfl) ?_; rfl; rfl) | (refine WL.val ?_ ?_ (Runs.extract rfl rfl) ?_; rfl; rfl) | (refine WL.val ?_ ?_ (Runs.nilCheck rfl) ?_; rfl; rfl) | (refine WL.val ?_ ?_ (Runs.pickT rfl rfl) ?_; rfl; rfl) | (refine WL.val ?_ ?_ (Runs.pickF rfl rfl) ?_; rfl; rfl) | (refine WL.val ?_ ?_ (Runs.len rfl sl22) ?_; rfl; rfl) | (refine WL.val ?_ ?_ (Runs.len rfl sl27) ?_; rfl; rfl) | (refine WL.val ?_ ?_ (Runs.len rfl sl37) ?_; rfl; rfl) | (refine WL.pass ?_ ?_ ?_; rfl; rfl))
            refine WL.val rfl rfl (Runs.sub rfl rfl (r := (C3.length : Int)) (wI (by rw [hz1]; omega) (by omega) (by omega))) ?_
            repeat (first | (refine WL.val ?_ ?_ (Runs.move rfl) ?_; rfl; rfl) | (refine WL.val ?_ ?_ (Runs.assign rfl) ?_; rfl; rfl) | (refine WL.val ?_ ?_ (Runs.extract rfl rfl) ?_; rfl; rfl) | (refine WL.val ?_ ?_ (Runs.nilCheck rfl) ?_; rfl; rfl) | (refine WL.val ?_ ?_ (Runs.pickT rfl rfl) ?_; rfl; rfl) | (refine WL.val ?_ ?_ (Runs.pickF rfl rfl) ?_; rfl; rfl) | (refine WL.val ?_ ?_ (Runs.len rfl sl22) ?_; rfl; rfl) | (refine WL.val ?_ ?_ (Runs.len rfl sl27) ?_; rfl; rfl) | (refine WL.val ?_ ?_ (Runs.len rfl sl37) ?_; rfl; rfl) | (refine WL.pass ?_ ?_ ?_; rfl; rfl))
            refine WL.nil ?_
            repeat (first | refine AtExit.thenRet ?_ | refine AtExit.thenExit ?_ | refine AtExit.blockRet ?_ | refine AtExit.blockEnd ?_ | refine AtExit.blockExit ?_ | (refine AtExit.blockPast ?_ ?_; rfl))
            refine AtExit.inv fun av hv => ⟨(C3, z :: C2), hv.sub (by repeat (first | exact Sub.nil _ | refine Sub.cons rfl ?_)), ⟨hb7, hz7, hix7, by rw [← hCC]; simp, fun y hy => ?_⟩, by show C3.length < (C3 ++ [z]).length; omega⟩
            rcases List.mem_cons.1 hy with rfl | hy
            · exact hd
            · exact hlt y hy
          · have hd := of_decide_eq_false hd
            have hpre : ((C3 ++ [z]).map R).Pairwise lx := by
              rw [← hCC, List.map_append, List.pairwise_append] at hsrt
              exact hsrt.1
            obtain ⟨f1, f2⟩ := fin (fun y hy => by
              rcases List.mem_append.1 hy with hy | hy
              · rw [List.map_append, List.pairwise_append] at hpre
                have := (hpre.2.2 (R y) (List.mem_map_of_mem hy) (R z) (by simp)).le
                rw [hRdy, hRdy] at this
                omega
              · rw [List.mem_singleton.1 hy]; omega)
            rw [hL] at hix5
            refine WC.exit ?_
            repeat (first | refine AtExit.thenRet ?_ | refine AtExit.thenExit ?_ | refine AtExit.blockRet ?_ | refine AtExit.blockEnd ?_ | refine AtExit.blockExit ?_ | (refine AtExit.blockPast ?_ ?_; rfl))
            refine AtExit.inv fun av hv => ⟨_, hv.sub (by repeat (first | exact Sub.nil _ | refine Sub.cons rfl ?_)), hb5, hz5, hix5, f1, f2⟩
      · rintro C' w4 ⟨g1, g2, g3, g4, g5⟩
        refine WC.region ?_
        repeat (first | (refine WL.val ?_ ?_ (Runs.move rfl) ?_; rfl; rfl) | (refine WL.val ?_ ?_ (Runs.assign rfl) ?_; rfl; rfl) | (refine WL.val ?_ ?_ (Runs.extract rfl rfl) ?_; rfl; rfl) | (refine WL.val ?_ ?_ (Runs.nilCheck rfl) ?_; rfl; rfl) | (refine WL.val ?_ ?_ (Runs.pickT rfl rfl) ?_; rfl; rfl) | (refine WL.val ?_ ?_ (Runs.pickF rfl rfl) ?_; rfl; rfl) | (refine WL.val ?_ ?_ (Runs.len rfl sl22) ?_; rfl; rfl) | (refine WL.val ?_ ?_ (Runs.len rfl sl27) ?_; rfl; rfl) | (refine WL.val ?_ ?_ (Runs.len rfl sl37) ?_; rfl; rfl) | (refine WL.pass ?_ ?_ ?_; rfl; rfl))
        refine WL.val rfl rfl (Runs.add rfl rfl (r := ((c + 1 : Nat) : Int)) (wI (by omega) (by omega) (by omega))) ?_
        repeat (first | (refine WL.val ?_ ?_ (Runs.move rfl) ?_; rfl; rfl) | (refine WL.val ?_ ?_ (Runs.assign rfl) ?_; rfl; rfl) | (refine WL.val ?_ ?_ (Runs.extract rfl rfl) ?_; rfl; rfl) | (refine WL.val ?_ ?_ (Runs.nilCheck rfl) ?_; rfl; rfl) | (refine WL.val ?_ ?_ (Runs.pickT rfl rfl) ?_; rfl; rfl) | (refine WL.val ?_ ?_ (Runs.pickF rfl rfl) ?_; rfl; rfl) | (refine WL.val ?_ ?_ (Runs.len rfl sl22) ?_; rfl; rfl) | (refine WL.val ?_ ?_ (Runs.len rfl sl27) ?_; rfl; rfl) | (refine WL.val ?_ ?_ (Runs.len rfl sl37) ?_; rfl; rfl) | (refine WL.pass ?_ ?_ ?_; rfl; rfl))
        refine WL.nil ?_
        repeat (first | refine AtExit.thenRet ?_ | refine AtExit.thenExit ?_ | refine AtExit.blockRet ?_ | refine AtExit.blockEnd ?_ | refine AtExit.blockExit ?_ | (refine AtExit.blockPast ?_ ?_; rfl))
        refine AtExit.inv fun av hv => ⟨(c + 1, C'), hv.sub (by repeat (first | exact Sub.nil _ | refine Sub.cons rfl ?_)), ⟨by omega, g1, g2, g3, g4, g5⟩, by show n - (c + 1) < n - c; omega⟩
    · refine WL.val rfl rfl (Runs.lss rfl rfl (decge hcn)) ?_
      refine WL.nil ?_
      repeat (first | refine AtExit.thenRet ?_ | refine AtExit.thenExit ?_ | refine AtExit.blockRet ?_ | refine AtExit.blockEnd ?_ | refine AtExit.blockExit ?_ | (refine AtExit.blockPast ?_ ?_; rfl))
      refine AtExit.go ?_
      refine WC.condF rfl ?_
      have d1 : J.drop c = [] := List.drop_eq_nil_of_le (by omega)
      have d2 : J.take c = J := List.take_of_length_le (by omega)
      rw [d1, List.append_nil] at hix
      rw [d2] at hp
      refine WC.exit ?_
      repeat (first | refine AtExit.thenRet ?_ | refine AtExit.thenExit ?_ | refine AtExit.blockRet ?_ | refine AtExit.blockEnd ?_ | refine AtExit.blockExit ?_ | (refine AtExit.blockPast ?_ ?_; rfl))
      refine AtExit.inv fun av hv => ⟨C, hv.sub (by repeat (first | exact Sub.nil _ | refine Sub.cons rfl ?_)), hb, hbz, hix, hp, hsrt⟩
  clear hix3 hb3 hz3 w3
  rintro J' w3 ⟨hb3, hz3, hix3, hpJ, hsJ⟩
  have hJ'n : J'.length = n := by rw [hpJ.length_eq]; exact hn
  have hJ'm : ∀ x ∈ J', x < m := fun x hx => hJm x (hpJ.mem_iff.1 hx)
  have hrl' : ((List.range m).map R).length = m := hrl
  have hRlo : ((List.range m).map R).Pairwise lo := by
    rw [List.pairwise_map]
    refine List.pairwise_lt_range.imp_of_mem fun _ _ h => ?_
    unfold lo
    rw [hRix, hRix]; exact h
  have hfil : ((List.range m).map R).filter (keep after) = J.map R := by
    rw [List.filter_map, ← hJ, hsel]; rfl
  have hB2 : B + 2 < base := by omega
  have hwb : B < w2.heap.size := by omega
  have hbw3 := hb2.trans (hb3.mono (by omega))
  have hrw3 := hrw2.below hb3 hB2
  have hrs3 := hrs.below hb3 hDb
  refine WC.seq (WC.region ?_)
  repeat (first | (refine WL.val ?_ ?_ (Runs.move rfl) ?_; rfl; rfl) | (refine WL.val ?_ ?_ (Runs.assign rfl) ?_; rfl; rfl) | (refine WL.val ?_ ?_ (Runs.extract rfl rfl) ?_; rfl; rfl) | (refine WL.val ?_ ?_ (Runs.nilCheck rfl) ?_; rfl; rfl) | (refine WL.val ?_ ?_ (Runs.pickT rfl rfl) ?_; rfl; rfl) | (refine WL.val ?_ ?_ (Runs.pickF rfl rfl) ?_; rfl; rfl) | (refine WL.val ?_ ?_ (Runs.len rfl sl22) ?_; rfl; rfl) | (refine WL.val ?_ ?_ (Runs.len rfl sl27) ?_; rfl; rfl) | (refine WL.val ?_ ?_ (Runs.len rfl sl37) ?_; rfl; rfl) | (refine WL.pass ?_ ?_ ?_; rfl; rfl))
  refine WL.call rfl rfl (RunsC.call rfl en4) (at_any after w3 haf.1 haf.2) ?_
  rintro e w4 ⟨rfl, hb4⟩
  refine ⟨_, rfl, ?_⟩
  have hrw4 := hrw3.below hb4 hrw3.lt
  have hpend := pending_any (B + 2) _ after w4 (by rw [hrl']; exact hm) hrw4 hRlo
  rw [hrl'] at hpend
  refine WL.call rfl rfl (RunsC.call rfl en5) hpend ?_
  rintro e w5 ⟨gv, C, rfl, hpC, hsC, hgot, hb5⟩
  refine ⟨_, rfl, ?_⟩
  repeat (first | (refine WL.val ?_ ?_ (Runs.move rfl) ?_; rfl; rfl) | (refine WL.val ?_ ?_ (Runs.assign rfl) ?_; rfl; rfl) | (refine WL.val ?_ ?_ (Runs.extract rfl rfl) ?_; rfl; rfl) | (refine WL.val ?_ ?_ (Runs.nilCheck rfl) ?_; rfl; rfl) | (refine WL.val ?_ ?_ (Runs.pickT rfl rfl) ?_; rfl; rfl) | (refine WL.val ?_ ?_ (Runs.pickF rfl rfl) ?_; rfl; rfl) | (refine WL.val ?_ ?_ (Runs.len rfl sl22) ?_; rfl; rfl) | (refine WL.val ?_ ?_ (Runs.len rfl sl27) ?_; rfl; rfl) | (refine WL.val ?_ ?_ (Runs.len rfl sl37) ?_; rfl; rfl) | (refine WL.pass ?_ ?_ ?_; rfl; rfl))
  refine WL.nil ?_
  repeat (first | refine AtExit.thenRet ?_ | refine AtExit.thenExit ?_ | refine AtExit.blockRet ?_ | refine AtExit.blockEnd ?_ | refine AtExit.blockExit ?_ | (refine AtExit.blockPast ?_ ?_; rfl))
  refine AtExit.go ?_
  rw [hfil] at hpC
  have hCe : C = J'.map R := sorted_unique hsC hsJ (hpC.trans (hpJ.map R).symm)
  have hb45 := Below.up hb4 hb5
  have hix5 := hix3.below hb45
  have hrw5 := hrw3.below hb45 hrw3.lt
  have hrs5 := hrs3.below hb45 hrs3.lt
  have hbw5 : Below B w w5 := hbw3.trans (hb45.mono (by omega))
  have hz5 : base ≤ w5.heap.size := Nat.le_trans hz3 hb45.size
  have hCl : C.length = n := by rw [hCe, List.length_map]; exact hJ'n
  clear hpend hb4 hb5 hb45 hrw4 hrw3 hrs3 hbw3 hix3 hb3 hz3 hpC hsC hsJ hpJ hrw2 hrs
  obtain ⟨gp, gc, hgv, hgrow⟩ : ∃ gp gc, gv = .slice gp n gc ∧ ((n = 0 ∧ gp = none) ∨ (0 < n ∧ ∃ g, gp = some ⟨g, 0, none⟩ ∧ Rw w5 g C)) := by
    rcases hgot with ⟨h0, hv⟩ | ⟨hne, g, cap, hv, _, hr⟩
    · have : n = 0 := by rw [← hCl, h0]; rfl
      exact ⟨none, 0, by rw [hv, this], Or.inl ⟨this, rfl⟩⟩
    · have : 0 < n := by
        rw [← hCl]
        exact List.length_pos_iff.2 hne
      exact ⟨_, _, by rw [hv, hCl], Or.inr ⟨this, g, rfl, hr⟩⟩
  subst hgv
  clear hgot
  refine WC.cut (α := Unit) (fun _ => [(7, .slice (some ⟨B + 2, 0, none⟩) m m), (11, .slice (some ⟨D, 0, none⟩) m m), (12, .slice p n cv), (18, .slice gp n gc)]) (fun _ w' => w' = w5) ?_ ?_
  · refine WC.seq (WC.region ?_)
    repeat (first | (refine WL.val ?_ ?_ (Runs.move rfl) ?_; rfl; rfl) | (refine WL.val ?_ ?_ (Runs.assign rfl) ?_; rfl; rfl) | (refine WL.val ?_ ?_ (Runs.extract rfl rfl) ?_; rfl; rfl) | (refine WL.val ?_ ?_ (Runs.nilCheck rfl) ?_; rfl; rfl) | (refine WL.val ?_ ?_ (Runs.pickT rfl rfl) ?_; rfl; rfl) | (refine WL.val ?_ ?_ (Runs.pickF rfl rfl) ?_; rfl; rfl) | (refine WL.val ?_ ?_ (Runs.len rfl sl22) ?_; rfl; rfl) | (refine WL.val ?_ ?_ (Runs.len rfl sl27) ?_; rfl; rfl) | (refine WL.val ?_ ?_ (Runs.len rfl sl37) ?_; rfl; rfl) | (refine WL.pass ?_ ?_ ?_; rfl; rfl))
    rcases hgrow with ⟨h0, hgn⟩ | ⟨h0, g, hgs, hgr⟩
    · subst hgn
      refine WL.val rfl rfl (Runs.eql rfl rfl (r := true) (dtrue (by omega))) ?_
      repeat (first | (refine WL.val ?_ ?_ (Runs.move rfl) ?_; rfl; rfl) | (refine WL.val ?_ ?_ (Runs.assign rfl) ?_; rfl; rfl) | (refine WL.val ?_ ?_ (Runs.extract rfl rfl) ?_; rfl; rfl) | (refine WL.val ?_ ?_ (Runs.nilCheck rfl) ?_; rfl; rfl) | (refine WL.val ?_ ?_ (Runs.pickT rfl rfl) ?_; rfl; rfl) | (refine WL.val ?_ ?_ (Runs.pickF rfl rfl) ?_; rfl; rfl) | (refine WL.val ?_ ?_ (Runs.len rfl sl22) ?_; rfl; rfl) | (refine WL.val ?_ ?_ (Runs.len rfl sl27) ?_; rfl; rfl) | (refine WL.val ?_ ?_ (Runs.len rfl sl37) ?_; rfl; rfl) | (refine WL.pass ?_ ?_ ?_; rfl; rfl))
      refine WL.val rfl rfl (Runs.neqSN rfl Yba.underlying27 (r := false) rfl) ?_
      repeat (first | (refine WL.val ?_ ?_ (Runs.move rfl) ?_; rfl; rfl) | (refine WL.val ?_ ?_ (Runs.assign rfl) ?_; rfl; rfl) | (refine WL.val ?_ ?_ (Runs.extract rfl rfl) ?_; rfl; rfl) | (refine WL.val ?_ ?_ (Runs.nilCheck rfl) ?_; rfl; rfl) | (refine WL.val ?_ ?_ (Runs.pickT rfl rfl) ?_; rfl; rfl) | (refine WL.val ?_ ?_ (Runs.pickF rfl rfl) ?_; rfl; rfl) | (refine WL.val ?_ ?_ (Runs.len rfl sl22) ?_; rfl; rfl) | (refine WL.val ?_ ?_ (Runs.len rfl sl27) ?_; rfl; rfl) | (refine WL.val ?_ ?_ (Runs.len rfl sl37) ?_; rfl; rfl) | (refine WL.pass ?_ ?_ ?_; rfl; rfl))
      refine WL.nil ?_
      repeat (first | refine AtExit.thenRet ?_ | refine AtExit.thenExit ?_ | refine AtExit.blockRet ?_ | refine AtExit.blockEnd ?_ | refine AtExit.blockExit ?_ | (refine AtExit.blockPast ?_ ?_; rfl))
      refine AtExit.go ?_
      refine WC.condF rfl ?_
      refine WC.skip ?_
      repeat (first | refine AtExit.thenRet ?_ | refine AtExit.thenExit ?_ | refine AtExit.blockRet ?_ | refine AtExit.blockEnd ?_ | refine AtExit.blockExit ?_ | (refine AtExit.blockPast ?_ ?_; rfl))
      refine AtExit.inv fun av hv => ⟨(), hv.sub (by repeat (first | exact Sub.nil _ | refine Sub.cons rfl ?_)), rfl⟩
    · refine WL.val rfl rfl (Runs.eql rfl rfl (r := false) (dfalse (by omega))) ?_
      repeat (first | (refine WL.val ?_ ?_ (Runs.move rfl) ?_; rfl; rfl) | (refine WL.val ?_ ?_ (Runs.assign rfl) ?_; rfl; rfl) | (refine WL.val ?_ ?_ (Runs.extract rfl rfl) ?_; rfl; rfl) | (refine WL.val ?_ ?_ (Runs.nilCheck rfl) ?_; rfl; rfl) | (refine WL.val ?_ ?_ (Runs.pickT rfl rfl) ?_; rfl; rfl) | (refine WL.val ?_ ?_ (Runs.pickF rfl rfl) ?_; rfl; rfl) | (refine WL.val ?_ ?_ (Runs.len rfl sl22) ?_; rfl; rfl) | (refine WL.val ?_ ?_ (Runs.len rfl sl27) ?_; rfl; rfl) | (refine WL.val ?_ ?_ (Runs.len rfl sl37) ?_; rfl; rfl) | (refine WL.pass ?_ ?_ ?_; rfl; rfl))
      refine WL.nil ?_
      repeat (first | refine AtExit.thenRet ?_ | refine AtExit.thenExit ?_ | refine AtExit.blockRet ?_ | refine AtExit.blockEnd ?_ | refine AtExit.blockExit ?_ | (refine AtExit.blockPast ?_ ?_; rfl))
      refine AtExit.go ?_
      refine WC.condF rfl ?_
      refine WC.skip ?_
      repeat (first | refine AtExit.thenRet ?_ | refine AtExit.thenExit ?_ | refine AtExit.blockRet ?_ | refine AtExit.blockEnd ?_ | refine AtExit.blockExit ?_ | (refine AtExit.blockPast ?_ ?_; rfl))
      refine AtExit.inv fun av hv => ⟨(), hv.sub (by repeat (first | exact Sub.nil _ | refine Sub.cons rfl ?_)), rfl⟩
  rintro _ w3 rfl
  refine WC.seq ?_
  refine WC.seq (WC.region ?_)
  repeat (first | (refine WL.val ?_ ?_ (Runs.move rfl) ?_; rfl; rfl) | (refine WL.val ?_ ?_ (Runs.assign rfl) ?_; rfl; rfl) | (refine WL.val ?_ ?_ (Runs.extract rfl rfl) ?_; rfl; rfl) | (refine WL.val ?_ ?_ (Runs.nilCheck rfl) ?_; rfl; rfl) | (refine WL.val ?_ ?_ (Runs.pickT rfl rfl) ?_; rfl; rfl) | (refine WL.val ?_ ?_ (Runs.pickF rfl rfl) ?_; rfl; rfl) | (refine WL.val ?_ ?_ (Runs.len rfl sl22) ?_; rfl; rfl) | (refine WL.val ?_ ?_ (Runs.len rfl sl27) ?_; rfl; rfl) | (refine WL.val ?_ ?_ (Runs.len rfl sl37) ?_; rfl; rfl) | (refine WL.pass ?_ ?_ ?_; rfl; rfl))
  refine WL.val rfl rfl (Runs.neq rfl rfl (r := false) (by simp)) ?_
  refine WL.nil ?_
  repeat (first | refine AtExit.thenRet ?_ | refine AtExit.thenExit ?_ | refine AtExit.blockRet ?_ | refine AtExit.blockEnd ?_ | refine AtExit.blockExit ?_ | (refine AtExit.blockPast ?_ ?_; rfl))
  refine AtExit.go ?_
  refine WC.condF rfl ?_
  refine WC.skip ?_
  repeat (first | refine AtExit.thenRet ?_ | refine AtExit.thenExit ?_ | refine AtExit.blockRet ?_ | refine AtExit.blockEnd ?_ | refine AtExit.blockExit ?_ | (refine AtExit.blockPast ?_ ?_; rfl))
  refine AtExit.go ?_
  refine WC.cut (α := Unit) (fun _ => [(7, .slice (some ⟨B + 2, 0, none⟩) m m), (11, .slice (some ⟨D, 0, none⟩) m m)]) (fun _ w' => Below w3.heap.size w3 w') ?_ ?_
  · refine WC.seq (WC.region ?_)
    repeat (first | (refine WL.val ?_ ?_ (Runs.move rfl) ?_; rfl; rfl) | (refine WL.val ?_ ?_ (Runs.assign rfl) ?_; rfl; rfl) | (refine WL.val ?_ ?_ (Runs.extract rfl rfl) ?_; rfl; rfl) | (refine WL.val ?_ ?_ (Runs.nilCheck rfl) ?_; rfl; rfl) | (refine WL.val ?_ ?_ (Runs.pickT rfl rfl) ?_; rfl; rfl) | (refine WL.val ?_ ?_ (Runs.pickF rfl rfl) ?_; rfl; rfl) | (refine WL.val ?_ ?_ (Runs.len rfl sl22) ?_; rfl; rfl) | (refine WL.val ?_ ?_ (Runs.len rfl sl27) ?_; rfl; rfl) | (refine WL.val ?_ ?_ (Runs.len rfl sl37) ?_; rfl; rfl) | (refine WL.pass ?_ ?_ ?_; rfl; rfl))
    refine WL.nil ?_
    repeat (first | refine AtExit.thenRet ?_ | refine AtExit.thenExit ?_ | refine AtExit.blockRet ?_ | refine AtExit.blockEnd ?_ | refine AtExit.blockExit ?_ | (refine AtExit.blockPast ?_ ?_; rfl))
    refine AtExit.go ?_
    refine WC.block ?_
    refine WC.loop (α := Nat) (fun i => [(7, .slice (some ⟨B + 2, 0, none⟩) m m), (11, .slice (some ⟨D, 0, none⟩) m m), (12, .slice p n cv), (18, .slice gp n gc), (19, .int .i64 (i : Int))])
      (fun i w' => i ≤ n ∧ Below w3.heap.size w3 w') (fun i => n - i) 0 (by repeat (first | exact Sub.nil _ | refine Sub.cons rfl ?_)) ⟨Nat.zero_le _, Below.refl _ _⟩ ?_
    rintro i w' ⟨hi, hb⟩
    refine WC.seq ?_
    refine WC.seq (WC.region ?_)
    repeat (first | (refine WL.val ?_ ?_ (Runs.move rfl) ?_; rfl; rfl) | (refine WL.val ?_ ?_ (Runs.assign rfl) ?_; rfl; rfl) | (refine WL.val ?_ ?_ (Runs.extract rfl rfl) ?_; rfl; rfl) | (refine WL.val ?_ ?_ (Runs.nilCheck rfl) ?_; rfl; rfl) | (refine WL.val ?_ ?_ (Runs.pickT rfl rfl) ?_; rfl; rfl) | (refine WL.val ?_ ?_ (Runs.pickF rfl rfl) ?_; rfl; rfl) | (refine WL.val ?_ ?_ (Runs.len rfl sl22) ?_; rfl; rfl) | (refine WL.val ?_ ?_ (Runs.len rfl sl27) ?_; rfl; rfl) | (refine WL.val ?_ ?_ (Runs.len rfl sl37) ?_; rfl; rfl) | (refine WL.pass ?_ ?_ ?_; rfl; rfl))
    by_cases hin : i < n
    · refine WL.val rfl rfl (Runs.lss rfl rfl (declt hin)) ?_
      refine WL.nil ?_
      repeat (first | refine AtExit.thenRet ?_ | refine AtExit.thenExit ?_ | refine AtExit.blockRet ?_ | refine AtExit.blockEnd ?_ | refine AtExit.blockExit ?_ | (refine AtExit.blockPast ?_ ?_; rfl))
      refine AtExit.go ?_
      refine WC.condT rfl ?_
      refine WC.skip ?_
      repeat (first | refine AtExit.thenRet ?_ | refine AtExit.thenExit ?_ | refine AtExit.blockRet ?_ | refine AtExit.blockEnd ?_ | refine AtExit.blockExit ?_ | (refine AtExit.blockPast ?_ ?_; rfl))
      refine AtExit.go ?_
      refine WC.seq (WC.block ?_)
      obtain ⟨x, hx⟩ : ∃ x, J'[i]? = some x := ⟨_, List.getElem?_eq_getElem (by omega)⟩
      have hxm := hJ'm x (List.mem_of_getElem? hx)
      have hCx : C[i]? = some (R x) := by rw [hCe, List.getElem?_map, hx]; rfl
      rcases hgrow with ⟨h0, _⟩ | ⟨_, g, hgs, hgr⟩
      · omega
      subst hgs
      have hixw := hix5.below hb
      rw [← hJ'n] at hixw
      obtain ⟨ig, icap, cur, hveq, hgb, hgh, _⟩ := hixw.row (by omega)
      obtain ⟨hp', hc'⟩ : p = some ⟨ig, 0, none⟩ ∧ cv = icap := by
        simp only [Value.slice.injEq] at hveq
        exact ⟨hveq.1, hveq.2.2⟩
      subst hp' hc'
      have hrsw := hrs5.below hb hrs5.lt
      refine WC.seq (WC.region ?_)
      repeat (first | (refine WL.val ?_ ?_ (Runs.move rfl) ?_; rfl; rfl) | (refine WL.val ?_ ?_ (Runs.assign rfl) ?_; rfl; rfl) | (refine WL.val ?_ ?_ (Runs.extract rfl rfl) ?_; rfl; rfl) | (refine WL.val ?_ ?_ (Runs.nilCheck rfl) ?_; rfl; rfl) | (refine WL.val ?_ ?_ (Runs.pickT rfl rfl) ?_; rfl; rfl) | (refine WL.val ?_ ?_ (Runs.pickF rfl rfl) ?_; rfl; rfl) | (refine WL.val ?_ ?_ (Runs.len rfl sl22) ?_; rfl; rfl) | (refine WL.val ?_ ?_ (Runs.len rfl sl27) ?_; rfl; rfl) | (refine WL.val ?_ ?_ (Runs.len rfl sl37) ?_; rfl; rfl) | (refine WL.pass ?_ ?_ ?_; rfl; rfl))
      refine WL.val rfl rfl (Runs.idx1 rfl rfl Yba.underlying37 sz3 rfl hin) ?_
      refine WL.val rfl rfl (Runs.load rfl na3 (hixw.cell hx)) ?_
      refine WL.val rfl rfl (Runs.idx rfl rfl Yba.underlying27 sz36 rfl hxm) ?_
      refine WL.val rfl rfl (Runs.loadAgg (cs := enc (R x)) rfl na36 sz36 (fun j u hu => hrsw.cell (get_range R m x hxm) hu)) ?_
      refine WL.val rfl rfl (Runs.alloc in36) ?_
      have hc1 := heap_new w' (.cells (Value.agg #[.int .i64 0, .int .u64 0, .int .i64 0, .pointer none, .pointer none]).cells 36)
      have hb1 := below_new w' (.cells (Value.agg #[.int .i64 0, .int .u64 0, .int .i64 0, .pointer none, .pointer none]).cells 36) (Nat.le_refl _)
      refine WL.skip rfl (RunsS.storeRow rfl rfl (by simp [enc, Value.oneCell']) sz36 hc1 rfl) ?_
      refine WL.nil ?_
      repeat (first | refine AtExit.thenRet ?_ | refine AtExit.thenExit ?_ | refine AtExit.blockRet ?_ | refine AtExit.blockEnd ?_ | refine AtExit.blockExit ?_ | (refine AtExit.blockPast ?_ ?_; rfl))
      refine AtExit.go ?_
      have hc2 := setRow_heap _ _ _ (enc (R x)).toArray _ _ hc1
      have hb2' := hb1.trans (below_setRow' _ w'.heap.size (enc (R x)).toArray (Nat.le_refl _))
      have hb3 := Below.up hb hb2'
      generalize (w'.alloc _).setRow _ _ = w6 at hc2 hb2' hb3 ⊢
      generalize w'.heap.size = X at hc2 ⊢
      clear hc1 hb1 hb2'
      have hgr6 := hgr.below hb3 hgr.lt
      have box : ∀ wq, Below w6.heap.size w6 wq → wq.heap[X]? = some (.cells (enc (R x)).toArray 36 (0, 0)) := fun wq h => below_heap h (lt_of_heap hc2) hc2
      refine WC.seq (WC.quiet (fun wq => Below w6.heap.size w6 wq) mixed (by kernel_rfl) (below_drawn _ _ _) ?_)
      repeat (first | (refine QL.val ?_ ?_ (fun wq hC => Runs.move rfl) ?_; rfl; rfl) | (refine QL.val ?_ ?_ (fun wq hC => Runs.assign rfl) ?_; rfl; rfl) | (refine QL.val ?_ ?_ (fun wq hC => Runs.extract rfl rfl) ?_; rfl; rfl) | (refine QL.val ?_ ?_ (fun wq hC => Runs.nilCheck rfl) ?_; rfl; rfl) | (refine QL.val ?_ ?_ (fun wq hC => Runs.pickT rfl rfl) ?_; rfl; rfl) | (refine QL.val ?_ ?_ (fun wq hC => Runs.pickF rfl rfl) ?_; rfl; rfl) | (refine QL.val ?_ ?_ (fun wq hC => Runs.len rfl sl22) ?_; rfl; rfl) | (refine QL.val ?_ ?_ (fun wq hC => Runs.len rfl sl27) ?_; rfl; rfl) | (refine QL.val ?_ ?_ (fun wq hC => Runs.len rfl sl37) ?_; rfl; rfl) | (refine QL.pass ?_ ?_ ?_; rfl; rfl))
      refine QL.val rfl rfl (fun wq hC => Runs.idx rfl rfl Yba.underlying27 sz36 rfl hin) ?_
      refine QL.val rfl rfl (fun wq hC => Runs.fld rfl fl36_0) ?_
      refine QL.val rfl rfl (fun wq hC => Runs.load rfl na3 (v := .int .i64 (R x).seq) ((hgr6.below hC hgr6.lt).cell hCx rfl)) ?_
      refine QL.val rfl rfl (fun wq hC => Runs.fld rfl fl36_0) ?_
      refine QL.val rfl rfl (fun wq hC => Runs.load rfl na3 (v := .int .i64 (R x).seq) (by rw [cell_of (box wq hC)]; rfl)) ?_
      refine QL.val rfl rfl (fun wq hC => Runs.neq rfl rfl (r := false) (by simp)) ?_
      repeat (first | (refine QL.val ?_ ?_ (fun wq hC => Runs.move rfl) ?_; rfl; rfl) | (refine QL.val ?_ ?_ (fun wq hC => Runs.assign rfl) ?_; rfl; rfl) | (refine QL.val ?_ ?_ (fun wq hC => Runs.extract rfl rfl) ?_; rfl; rfl) | (refine QL.val ?_ ?_ (fun wq hC => Runs.nilCheck rfl) ?_; rfl; rfl) | (refine QL.val ?_ ?_ (fun wq hC => Runs.pickT rfl rfl) ?_; rfl; rfl) | (refine QL.val ?_ ?_ (fun wq hC => Runs.pickF rfl rfl) ?_; rfl; rfl) | (refine QL.val ?_ ?_ (fun wq hC => Runs.len rfl sl22) ?_; rfl; rfl) | (refine QL.val ?_ ?_ (fun wq hC => Runs.len rfl sl27) ?_; rfl; rfl) | (refine QL.val ?_ ?_ (fun wq hC => Runs.len rfl sl37) ?_; rfl; rfl) | (refine QL.pass ?_ ?_ ?_; rfl; rfl))
      refine QL.val rfl rfl (fun wq hC => Runs.idx rfl rfl Yba.underlying27 sz36 rfl hin) ?_
      refine QL.val rfl rfl (fun wq hC => Runs.fld rfl fl36_1) ?_
      refine QL.val rfl rfl (fun wq hC => Runs.loadAgg (cs := [.int .u64 ((R x).day % 1000000000), .int .i64 ((R x).day / 1000000000), .pointer none]) rfl na33 sz33 ((hgr6.below hC hgr6.lt).date hCx)) ?_
      refine QL.val rfl rfl (fun wq hC => Runs.fld rfl fl36_1) ?_
      refine QL.val rfl rfl (fun wq hC => Runs.loadAgg (cs := [.int .u64 ((R x).day % 1000000000), .int .i64 ((R x).day / 1000000000), .pointer none]) rfl na33 sz33 (fun j u hu => by rw [cell_of (box wq hC)]; match j, hu with | 0, hu => exact hu | 1, hu => exact hu | 2, hu => exact hu)) ?_
      refine QL.val rfl rfl (fun wq hC => Runs.neqA rfl rfl guard33 struct33 held33 (eq33 _ _ _) (r := false) rfl) ?_
      repeat (first | (refine QL.val ?_ ?_ (fun wq hC => Runs.move rfl) ?_; rfl; rfl) | (refine QL.val ?_ ?_ (fun wq hC => Runs.assign rfl) ?_; rfl; rfl) | (refine QL.val ?_ ?_ (fun wq hC => Runs.extract rfl rfl) ?_; rfl; rfl) | (refine QL.val ?_ ?_ (fun wq hC => Runs.nilCheck rfl) ?_; rfl; rfl) | (refine QL.val ?_ ?_ (fun wq hC => Runs.pickT rfl rfl) ?_; rfl; rfl) | (refine QL.val ?_ ?_ (fun wq hC => Runs.pickF rfl rfl) ?_; rfl; rfl) | (refine QL.val ?_ ?_ (fun wq hC => Runs.len rfl sl22) ?_; rfl; rfl) | (refine QL.val ?_ ?_ (fun wq hC => Runs.len rfl sl27) ?_; rfl; rfl) | (refine QL.val ?_ ?_ (fun wq hC => Runs.len rfl sl37) ?_; rfl; rfl) | (refine QL.pass ?_ ?_ ?_; rfl; rfl))
      refine QL.val rfl rfl (fun wq hC => Runs.idx rfl rfl Yba.underlying27 sz36 rfl hin) ?_
      refine QL.val rfl rfl (fun wq hC => Runs.fld rfl fl36_2) ?_
      refine QL.val rfl rfl (fun wq hC => Runs.load rfl na23 (v := .pointer (R x).ek) ((hgr6.below hC hgr6.lt).cell hCx rfl)) ?_
      refine QL.val rfl rfl (fun wq hC => Runs.fld rfl fl36_2) ?_
      refine QL.val rfl rfl (fun wq hC => Runs.load rfl na23 (v := .pointer (R x).ek) (by rw [cell_of (box wq hC)]; rfl)) ?_
      refine QL.val rfl rfl (fun wq hC => Runs.neqPP rfl rfl pt23 info26) ?_
      repeat (first | (refine QL.val ?_ ?_ (fun wq hC => Runs.move rfl) ?_; rfl; rfl) | (refine QL.val ?_ ?_ (fun wq hC => Runs.assign rfl) ?_; rfl; rfl) | (refine QL.val ?_ ?_ (fun wq hC => Runs.extract rfl rfl) ?_; rfl; rfl) | (refine QL.val ?_ ?_ (fun wq hC => Runs.nilCheck rfl) ?_; rfl; rfl) | (refine QL.val ?_ ?_ (fun wq hC => Runs.pickT rfl rfl) ?_; rfl; rfl) | (refine QL.val ?_ ?_ (fun wq hC => Runs.pickF rfl rfl) ?_; rfl; rfl) | (refine QL.val ?_ ?_ (fun wq hC => Runs.len rfl sl22) ?_; rfl; rfl) | (refine QL.val ?_ ?_ (fun wq hC => Runs.len rfl sl27) ?_; rfl; rfl) | (refine QL.val ?_ ?_ (fun wq hC => Runs.len rfl sl37) ?_; rfl; rfl) | (refine QL.pass ?_ ?_ ?_; rfl; rfl))
      refine QL.nil fun wq hC => ?_
      repeat (first | refine AtExit.thenRet ?_ | refine AtExit.thenExit ?_ | refine AtExit.blockRet ?_ | refine AtExit.blockEnd ?_ | refine AtExit.blockExit ?_ | (refine AtExit.blockPast ?_ ?_; rfl))
      refine AtExit.go ?_
      refine WC.condF rfl ?_
      refine WC.skip ?_
      repeat (first | refine AtExit.thenRet ?_ | refine AtExit.thenExit ?_ | refine AtExit.blockRet ?_ | refine AtExit.blockEnd ?_ | refine AtExit.blockExit ?_ | (refine AtExit.blockPast ?_ ?_; rfl))
      refine AtExit.go ?_
      refine WC.region ?_
      repeat (first | (refine WL.val ?_ ?_ (Runs.move rfl) ?_; rfl; rfl) | (refine WL.val ?_ ?_ (Runs.assign rfl) ?_; rfl; rfl) | (refine WL.val ?_ ?_ (Runs.extract rfl rfl) ?_; rfl; rfl) | (refine WL.val ?_ ?_ (Runs.nilCheck rfl) ?_; rfl; rfl) | (refine WL.val ?_ ?_ (Runs.pickT rfl rfl) ?_; rfl; rfl) | (refine WL.val ?_ ?_ (Runs.pickF rfl rfl) ?_; rfl; rfl) | (refine WL.val ?_ ?_ (Runs.len rfl sl22) ?_; rfl; rfl) | (refine WL.val ?_ ?_ (Runs.len rfl sl27) ?_; rfl; rfl) | (refine WL.val ?_ ?_ (Runs.len rfl sl37) ?_; rfl; rfl) | (refine WL.pass ?_ ?_ ?_; rfl; rfl))
      refine WL.val rfl rfl (Runs.add rfl rfl (r := ((i + 1 : Nat) : Int)) (wI (by omega) (by omega) (by omega))) ?_
      repeat (first | (refine WL.val ?_ ?_ (Runs.move rfl) ?_; rfl; rfl) | (refine WL.val ?_ ?_ (Runs.assign rfl) ?_; rfl; rfl) | (refine WL.val ?_ ?_ (Runs.extract rfl rfl) ?_; rfl; rfl) | (refine WL.val ?_ ?_ (Runs.nilCheck rfl) ?_; rfl; rfl) | (refine WL.val ?_ ?_ (Runs.pickT rfl rfl) ?_; rfl; rfl) | (refine WL.val ?_ ?_ (Runs.pickF rfl rfl) ?_; rfl; rfl) | (refine WL.val ?_ ?_ (Runs.len rfl sl22) ?_; rfl; rfl) | (refine WL.val ?_ ?_ (Runs.len rfl sl27) ?_; rfl; rfl) | (refine WL.val ?_ ?_ (Runs.len rfl sl37) ?_; rfl; rfl) | (refine WL.pass ?_ ?_ ?_; rfl; rfl))
      refine WL.nil ?_
      repeat (first | refine AtExit.thenRet ?_ | refine AtExit.thenExit ?_ | refine AtExit.blockRet ?_ | refine AtExit.blockEnd ?_ | refine AtExit.blockExit ?_ | (refine AtExit.blockPast ?_ ?_; rfl))
      refine AtExit.inv fun av hv => ⟨i + 1, hv.sub (by repeat (first | exact Sub.nil _ | refine Sub.cons rfl ?_)), ⟨by omega, Below.up hb3 hC⟩, by omega⟩
    · refine WL.val rfl rfl (Runs.lss rfl rfl (decge hin)) ?_
      refine WL.nil ?_
      repeat (first | refine AtExit.thenRet ?_ | refine AtExit.thenExit ?_ | refine AtExit.blockRet ?_ | refine AtExit.blockEnd ?_ | refine AtExit.blockExit ?_ | (refine AtExit.blockPast ?_ ?_; rfl))
      refine AtExit.go ?_
      refine WC.condF rfl ?_
      refine WC.exit ?_
      repeat (first | refine AtExit.thenRet ?_ | refine AtExit.thenExit ?_ | refine AtExit.blockRet ?_ | refine AtExit.blockEnd ?_ | refine AtExit.blockExit ?_ | (refine AtExit.blockPast ?_ ?_; rfl))
      refine AtExit.inv fun av hv => ⟨(), hv.sub (by repeat (first | exact Sub.nil _ | refine Sub.cons rfl ?_)), hb⟩
  rintro _ w4 hb4
  refine WC.cut (α := Unit) (fun _ => []) (fun _ w' => Below w3.heap.size w3 w') ?_ ?_
  · refine WC.seq (WC.region ?_)
    repeat (first | (refine WL.val ?_ ?_ (Runs.move rfl) ?_; rfl; rfl) | (refine WL.val ?_ ?_ (Runs.assign rfl) ?_; rfl; rfl) | (refine WL.val ?_ ?_ (Runs.extract rfl rfl) ?_; rfl; rfl) | (refine WL.val ?_ ?_ (Runs.nilCheck rfl) ?_; rfl; rfl) | (refine WL.val ?_ ?_ (Runs.pickT rfl rfl) ?_; rfl; rfl) | (refine WL.val ?_ ?_ (Runs.pickF rfl rfl) ?_; rfl; rfl) | (refine WL.val ?_ ?_ (Runs.len rfl sl22) ?_; rfl; rfl) | (refine WL.val ?_ ?_ (Runs.len rfl sl27) ?_; rfl; rfl) | (refine WL.val ?_ ?_ (Runs.len rfl sl37) ?_; rfl; rfl) | (refine WL.pass ?_ ?_ ?_; rfl; rfl))
    refine WL.nil ?_
    repeat (first | refine AtExit.thenRet ?_ | refine AtExit.thenExit ?_ | refine AtExit.blockRet ?_ | refine AtExit.blockEnd ?_ | refine AtExit.blockExit ?_ | (refine AtExit.blockPast ?_ ?_; rfl))
    refine AtExit.go ?_
    refine WC.block ?_
    refine WC.loop (α := Nat) (fun i => [(7, .slice (some ⟨B + 2, 0, none⟩) m m), (11, .slice (some ⟨D, 0, none⟩) m m), (21, .int .i64 (i : Int))])
      (fun i w' => i ≤ m ∧ Below w3.heap.size w3 w') (fun i => m - i) 0 (by repeat (first | exact Sub.nil _ | refine Sub.cons rfl ?_)) ⟨Nat.zero_le _, hb4⟩ ?_
    rintro i w' ⟨hi, hb⟩
    refine WC.seq ?_
    refine WC.seq (WC.region ?_)
    repeat (first | (refine WL.val ?_ ?_ (Runs.move rfl) ?_; rfl; rfl) | (refine WL.val ?_ ?_ (Runs.assign rfl) ?_; rfl; rfl) | (refine WL.val ?_ ?_ (Runs.extract rfl rfl) ?_; rfl; rfl) | (refine WL.val ?_ ?_ (Runs.nilCheck rfl) ?_; rfl; rfl) | (refine WL.val ?_ ?_ (Runs.pickT rfl rfl) ?_; rfl; rfl) | (refine WL.val ?_ ?_ (Runs.pickF rfl rfl) ?_; rfl; rfl) | (refine WL.val ?_ ?_ (Runs.len rfl sl22) ?_; rfl; rfl) | (refine WL.val ?_ ?_ (Runs.len rfl sl27) ?_; rfl; rfl) | (refine WL.val ?_ ?_ (Runs.len rfl sl37) ?_; rfl; rfl) | (refine WL.pass ?_ ?_ ?_; rfl; rfl))
    by_cases him : i < m
    · refine WL.val rfl rfl (Runs.lss rfl rfl (declt him)) ?_
      refine WL.nil ?_
      repeat (first | refine AtExit.thenRet ?_ | refine AtExit.thenExit ?_ | refine AtExit.blockRet ?_ | refine AtExit.blockEnd ?_ | refine AtExit.blockExit ?_ | (refine AtExit.blockPast ?_ ?_; rfl))
      refine AtExit.go ?_
      refine WC.condT rfl ?_
      refine WC.skip ?_
      repeat (first | refine AtExit.thenRet ?_ | refine AtExit.thenExit ?_ | refine AtExit.blockRet ?_ | refine AtExit.blockEnd ?_ | refine AtExit.blockExit ?_ | (refine AtExit.blockPast ?_ ?_; rfl))
      refine AtExit.go ?_
      refine WC.seq (WC.block ?_)
      have gi := get_range R m i him
      have r1 : ∀ wq, Below w'.heap.size w' wq → Rw wq (B + 2) ((List.range m).map R) := fun wq h => hrw5.below (Below.up hb h) hrw5.lt
      have r2 : ∀ wq, Below w'.heap.size w' wq → Rw wq D ((List.range m).map R) := fun wq h => hrs5.below (Below.up hb h) hrs5.lt
      refine WC.seq (WC.quiet (fun wq => Below w'.heap.size w' wq) mixed (by kernel_rfl) (below_drawn _ _ _) ?_)
      repeat (first | (refine QL.val ?_ ?_ (fun wq hC => Runs.move rfl) ?_; rfl; rfl) | (refine QL.val ?_ ?_ (fun wq hC => Runs.assign rfl) ?_; rfl; rfl) | (refine QL.val ?_ ?_ (fun wq hC => Runs.extract rfl rfl) ?_; rfl; rfl) | (refine QL.val ?_ ?_ (fun wq hC => Runs.nilCheck rfl) ?_; rfl; rfl) | (refine QL.val ?_ ?_ (fun wq hC => Runs.pickT rfl rfl) ?_; rfl; rfl) | (refine QL.val ?_ ?_ (fun wq hC => Runs.pickF rfl rfl) ?_; rfl; rfl) | (refine QL.val ?_ ?_ (fun wq hC => Runs.len rfl sl22) ?_; rfl; rfl) | (refine QL.val ?_ ?_ (fun wq hC => Runs.len rfl sl27) ?_; rfl; rfl) | (refine QL.val ?_ ?_ (fun wq hC => Runs.len rfl sl37) ?_; rfl; rfl) | (refine QL.pass ?_ ?_ ?_; rfl; rfl))
      refine QL.val rfl rfl (fun wq hC => Runs.idx rfl rfl Yba.underlying27 sz36 rfl him) ?_
      refine QL.val rfl rfl (fun wq hC => Runs.fld rfl fl36_0) ?_
      refine QL.val rfl rfl (fun wq hC => Runs.load rfl na3 (v := .int .i64 (R i).seq) ((r1 wq hC).cell gi rfl)) ?_
      repeat (first | (refine QL.val ?_ ?_ (fun wq hC => Runs.move rfl) ?_; rfl; rfl) | (refine QL.val ?_ ?_ (fun wq hC => Runs.assign rfl) ?_; rfl; rfl) | (refine QL.val ?_ ?_ (fun wq hC => Runs.extract rfl rfl) ?_; rfl; rfl) | (refine QL.val ?_ ?_ (fun wq hC => Runs.nilCheck rfl) ?_; rfl; rfl) | (refine QL.val ?_ ?_ (fun wq hC => Runs.pickT rfl rfl) ?_; rfl; rfl) | (refine QL.val ?_ ?_ (fun wq hC => Runs.pickF rfl rfl) ?_; rfl; rfl) | (refine QL.val ?_ ?_ (fun wq hC => Runs.len rfl sl22) ?_; rfl; rfl) | (refine QL.val ?_ ?_ (fun wq hC => Runs.len rfl sl27) ?_; rfl; rfl) | (refine QL.val ?_ ?_ (fun wq hC => Runs.len rfl sl37) ?_; rfl; rfl) | (refine QL.pass ?_ ?_ ?_; rfl; rfl))
      refine QL.val rfl rfl (fun wq hC => Runs.idx rfl rfl Yba.underlying27 sz36 rfl him) ?_
      refine QL.val rfl rfl (fun wq hC => Runs.fld rfl fl36_0) ?_
      refine QL.val rfl rfl (fun wq hC => Runs.load rfl na3 (v := .int .i64 (R i).seq) ((r2 wq hC).cell gi rfl)) ?_
      refine QL.val rfl rfl (fun wq hC => Runs.neq rfl rfl (r := false) (by simp)) ?_
      repeat (first | (refine QL.val ?_ ?_ (fun wq hC => Runs.move rfl) ?_; rfl; rfl) | (refine QL.val ?_ ?_ (fun wq hC => Runs.assign rfl) ?_; rfl; rfl) | (refine QL.val ?_ ?_ (fun wq hC => Runs.extract rfl rfl) ?_; rfl; rfl) | (refine QL.val ?_ ?_ (fun wq hC => Runs.nilCheck rfl) ?_; rfl; rfl) | (refine QL.val ?_ ?_ (fun wq hC => Runs.pickT rfl rfl) ?_; rfl; rfl) | (refine QL.val ?_ ?_ (fun wq hC => Runs.pickF rfl rfl) ?_; rfl; rfl) | (refine QL.val ?_ ?_ (fun wq hC => Runs.len rfl sl22) ?_; rfl; rfl) | (refine QL.val ?_ ?_ (fun wq hC => Runs.len rfl sl27) ?_; rfl; rfl) | (refine QL.val ?_ ?_ (fun wq hC => Runs.len rfl sl37) ?_; rfl; rfl) | (refine QL.pass ?_ ?_ ?_; rfl; rfl))
      refine QL.val rfl rfl (fun wq hC => Runs.idx rfl rfl Yba.underlying27 sz36 rfl him) ?_
      refine QL.val rfl rfl (fun wq hC => Runs.fld rfl fl36_1) ?_
      refine QL.val rfl rfl (fun wq hC => Runs.loadAgg (cs := [.int .u64 ((R i).day % 1000000000), .int .i64 ((R i).day / 1000000000), .pointer none]) rfl na33 sz33 ((r1 wq hC).date gi)) ?_
      repeat (first | (refine QL.val ?_ ?_ (fun wq hC => Runs.move rfl) ?_; rfl; rfl) | (refine QL.val ?_ ?_ (fun wq hC => Runs.assign rfl) ?_; rfl; rfl) | (refine QL.val ?_ ?_ (fun wq hC => Runs.extract rfl rfl) ?_; rfl; rfl) | (refine QL.val ?_ ?_ (fun wq hC => Runs.nilCheck rfl) ?_; rfl; rfl) | (refine QL.val ?_ ?_ (fun wq hC => Runs.pickT rfl rfl) ?_; rfl; rfl) | (refine QL.val ?_ ?_ (fun wq hC => Runs.pickF rfl rfl) ?_; rfl; rfl) | (refine QL.val ?_ ?_ (fun wq hC => Runs.len rfl sl22) ?_; rfl; rfl) | (refine QL.val ?_ ?_ (fun wq hC => Runs.len rfl sl27) ?_; rfl; rfl) | (refine QL.val ?_ ?_ (fun wq hC => Runs.len rfl sl37) ?_; rfl; rfl) | (refine QL.pass ?_ ?_ ?_; rfl; rfl))
      refine QL.val rfl rfl (fun wq hC => Runs.idx rfl rfl Yba.underlying27 sz36 rfl him) ?_
      refine QL.val rfl rfl (fun wq hC => Runs.fld rfl fl36_1) ?_
      refine QL.val rfl rfl (fun wq hC => Runs.loadAgg (cs := [.int .u64 ((R i).day % 1000000000), .int .i64 ((R i).day / 1000000000), .pointer none]) rfl na33 sz33 ((r2 wq hC).date gi)) ?_
      refine QL.val rfl rfl (fun wq hC => Runs.neqA rfl rfl guard33 struct33 held33 (eq33 _ _ _) (r := false) rfl) ?_
      repeat (first | (refine QL.val ?_ ?_ (fun wq hC => Runs.move rfl) ?_; rfl; rfl) | (refine QL.val ?_ ?_ (fun wq hC => Runs.assign rfl) ?_; rfl; rfl) | (refine QL.val ?_ ?_ (fun wq hC => Runs.extract rfl rfl) ?_; rfl; rfl) | (refine QL.val ?_ ?_ (fun wq hC => Runs.nilCheck rfl) ?_; rfl; rfl) | (refine QL.val ?_ ?_ (fun wq hC => Runs.pickT rfl rfl) ?_; rfl; rfl) | (refine QL.val ?_ ?_ (fun wq hC => Runs.pickF rfl rfl) ?_; rfl; rfl) | (refine QL.val ?_ ?_ (fun wq hC => Runs.len rfl sl22) ?_; rfl; rfl) | (refine QL.val ?_ ?_ (fun wq hC => Runs.len rfl sl27) ?_; rfl; rfl) | (refine QL.val ?_ ?_ (fun wq hC => Runs.len rfl sl37) ?_; rfl; rfl) | (refine QL.pass ?_ ?_ ?_; rfl; rfl))
      refine QL.val rfl rfl (fun wq hC => Runs.idx rfl rfl Yba.underlying27 sz36 rfl him) ?_
      refine QL.val rfl rfl (fun wq hC => Runs.fld rfl fl36_2) ?_
      refine QL.val rfl rfl (fun wq hC => Runs.load rfl na23 (v := .pointer (R i).ek) ((r1 wq hC).cell gi rfl)) ?_
      repeat (first | (refine QL.val ?_ ?_ (fun wq hC => Runs.move rfl) ?_; rfl; rfl) | (refine QL.val ?_ ?_ (fun wq hC => Runs.assign rfl) ?_; rfl; rfl) | (refine QL.val ?_ ?_ (fun wq hC => Runs.extract rfl rfl) ?_; rfl; rfl) | (refine QL.val ?_ ?_ (fun wq hC => Runs.nilCheck rfl) ?_; rfl; rfl) | (refine QL.val ?_ ?_ (fun wq hC => Runs.pickT rfl rfl) ?_; rfl; rfl) | (refine QL.val ?_ ?_ (fun wq hC => Runs.pickF rfl rfl) ?_; rfl; rfl) | (refine QL.val ?_ ?_ (fun wq hC => Runs.len rfl sl22) ?_; rfl; rfl) | (refine QL.val ?_ ?_ (fun wq hC => Runs.len rfl sl27) ?_; rfl; rfl) | (refine QL.val ?_ ?_ (fun wq hC => Runs.len rfl sl37) ?_; rfl; rfl) | (refine QL.pass ?_ ?_ ?_; rfl; rfl))
      refine QL.val rfl rfl (fun wq hC => Runs.idx rfl rfl Yba.underlying27 sz36 rfl him) ?_
      refine QL.val rfl rfl (fun wq hC => Runs.fld rfl fl36_2) ?_
      refine QL.val rfl rfl (fun wq hC => Runs.load rfl na23 (v := .pointer (R i).ek) ((r2 wq hC).cell gi rfl)) ?_
      refine QL.val rfl rfl (fun wq hC => Runs.neqPP rfl rfl pt23 info26) ?_
      repeat (first | (refine QL.val ?_ ?_ (fun wq hC => Runs.move rfl) ?_; rfl; rfl) | (refine QL.val ?_ ?_ (fun wq hC => Runs.assign rfl) ?_; rfl; rfl) | (refine QL.val ?_ ?_ (fun wq hC => Runs.extract rfl rfl) ?_; rfl; rfl) | (refine QL.val ?_ ?_ (fun wq hC => Runs.nilCheck rfl) ?_; rfl; rfl) | (refine QL.val ?_ ?_ (fun wq hC => Runs.pickT rfl rfl) ?_; rfl; rfl) | (refine QL.val ?_ ?_ (fun wq hC => Runs.pickF rfl rfl) ?_; rfl; rfl) | (refine QL.val ?_ ?_ (fun wq hC => Runs.len rfl sl22) ?_; rfl; rfl) | (refine QL.val ?_ ?_ (fun wq hC => Runs.len rfl sl27) ?_; rfl; rfl) | (refine QL.val ?_ ?_ (fun wq hC => Runs.len rfl sl37) ?_; rfl; rfl) | (refine QL.pass ?_ ?_ ?_; rfl; rfl))
      refine QL.nil fun wq hC => ?_
      repeat (first | refine AtExit.thenRet ?_ | refine AtExit.thenExit ?_ | refine AtExit.blockRet ?_ | refine AtExit.blockEnd ?_ | refine AtExit.blockExit ?_ | (refine AtExit.blockPast ?_ ?_; rfl))
      refine AtExit.go ?_
      refine WC.condF rfl ?_
      refine WC.skip ?_
      repeat (first | refine AtExit.thenRet ?_ | refine AtExit.thenExit ?_ | refine AtExit.blockRet ?_ | refine AtExit.blockEnd ?_ | refine AtExit.blockExit ?_ | (refine AtExit.blockPast ?_ ?_; rfl))
      refine AtExit.go ?_
      refine WC.region ?_
      repeat (first | (refine WL.val ?_ ?_ (Runs.move rfl) ?_; rfl; rfl) | (refine WL.val ?_ ?_ (Runs.assign rfl) ?_; rfl; rfl) | (refine WL.val ?_ ?_ (Runs.extract rfl rfl) ?_; rfl; rfl) | (refine WL.val ?_ ?_ (Runs.nilCheck rfl) ?_; rfl; rfl) | (refine WL.val ?_ ?_ (Runs.pickT rfl rfl) ?_; rfl; rfl) | (refine WL.val ?_ ?_ (Runs.pickF rfl rfl) ?_; rfl; rfl) | (refine WL.val ?_ ?_ (Runs.len rfl sl22) ?_; rfl; rfl) | (refine WL.val ?_ ?_ (Runs.len rfl sl27) ?_; rfl; rfl) | (refine WL.val ?_ ?_ (Runs.len rfl sl37) ?_; rfl; rfl) | (refine WL.pass ?_ ?_ ?_; rfl; rfl))
      refine WL.val rfl rfl (Runs.add rfl rfl (r := ((i + 1 : Nat) : Int)) (wI (by omega) (by omega) (by omega))) ?_
      repeat (first | (refine WL.val ?_ ?_ (Runs.move rfl) ?_; rfl; rfl) | (refine WL.val ?_ ?_ (Runs.assign rfl) ?_; rfl; rfl) | (refine WL.val ?_ ?_ (Runs.extract rfl rfl) ?_; rfl; rfl) | (refine WL.val ?_ ?_ (Runs.nilCheck rfl) ?_; rfl; rfl) | (refine WL.val ?_ ?_ (Runs.pickT rfl rfl) ?_; rfl; rfl) | (refine WL.val ?_ ?_ (Runs.pickF rfl rfl) ?_; rfl; rfl) | (refine WL.val ?_ ?_ (Runs.len rfl sl22) ?_; rfl; rfl) | (refine WL.val ?_ ?_ (Runs.len rfl sl27) ?_; rfl; rfl) | (refine WL.val ?_ ?_ (Runs.len rfl sl37) ?_; rfl; rfl) | (refine WL.pass ?_ ?_ ?_; rfl; rfl))
      refine WL.nil ?_
      repeat (first | refine AtExit.thenRet ?_ | refine AtExit.thenExit ?_ | refine AtExit.blockRet ?_ | refine AtExit.blockEnd ?_ | refine AtExit.blockExit ?_ | (refine AtExit.blockPast ?_ ?_; rfl))
      refine AtExit.inv fun av hv => ⟨i + 1, hv.sub (by repeat (first | exact Sub.nil _ | refine Sub.cons rfl ?_)), ⟨by omega, Below.up hb hC⟩, by omega⟩
    · refine WL.val rfl rfl (Runs.lss rfl rfl (decge him)) ?_
      refine WL.nil ?_
      repeat (first | refine AtExit.thenRet ?_ | refine AtExit.thenExit ?_ | refine AtExit.blockRet ?_ | refine AtExit.blockEnd ?_ | refine AtExit.blockExit ?_ | (refine AtExit.blockPast ?_ ?_; rfl))
      refine AtExit.go ?_
      refine WC.condF rfl ?_
      refine WC.exit ?_
      repeat (first | refine AtExit.thenRet ?_ | refine AtExit.thenExit ?_ | refine AtExit.blockRet ?_ | refine AtExit.blockEnd ?_ | refine AtExit.blockExit ?_ | (refine AtExit.blockPast ?_ ?_; rfl))
      refine AtExit.inv fun av hv => ⟨(), hv.sub (Sub.nil _), hb⟩
  rintro _ w6 hb6
  refine WC.seq (WC.region ?_)
  repeat (first | (refine WL.val ?_ ?_ (Runs.move rfl) ?_; rfl; rfl) | (refine WL.val ?_ ?_ (Runs.assign rfl) ?_; rfl; rfl) | (refine WL.val ?_ ?_ (Runs.extract rfl rfl) ?_; rfl; rfl) | (refine WL.val ?_ ?_ (Runs.nilCheck rfl) ?_; rfl; rfl) | (refine WL.val ?_ ?_ (Runs.pickT rfl rfl) ?_; rfl; rfl) | (refine WL.val ?_ ?_ (Runs.pickF rfl rfl) ?_; rfl; rfl) | (refine WL.val ?_ ?_ (Runs.len rfl sl22) ?_; rfl; rfl) | (refine WL.val ?_ ?_ (Runs.len rfl sl27) ?_; rfl; rfl) | (refine WL.val ?_ ?_ (Runs.len rfl sl37) ?_; rfl; rfl) | (refine WL.pass ?_ ?_ ?_; rfl; rfl))
  refine WL.nil ?_
  repeat (first | refine AtExit.thenRet ?_ | refine AtExit.thenExit ?_ | refine AtExit.blockRet ?_ | refine AtExit.blockEnd ?_ | refine AtExit.blockExit ?_ | (refine AtExit.blockPast ?_ ?_; rfl))
  refine AtExit.go ?_
  refine WC.ret ?_
  repeat (first | refine AtExit.thenRet ?_ | refine AtExit.thenExit ?_ | refine AtExit.blockRet ?_ | refine AtExit.blockEnd ?_ | refine AtExit.blockExit ?_ | (refine AtExit.blockPast ?_ ?_; rfl))
  exact post1 rfl rfl ⟨rfl, hbw5.trans (hb6.mono (by omega))⟩
end Go.Proofs.Ybulkgfau
