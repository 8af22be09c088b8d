/- sort.SliceStable's helpers, walked: swapRange, rotate, insertionSort. -/
import Derived.Test.YbulkgfauTime
namespace Go.Proofs.Ybulkgfau
open Go Go.Fr Go.RowKit Go.Lib

theorem wI {x r : Int} (e : x = r) (h0 : -9223372036854775808 ≤ r) (h1 : r ≤ 9223372036854775807) : IntKind.i64.wrap x = r := by subst e; exact wrap64_id h0 h1
theorem declt {a b : Nat} (h : a < b) : decide ((a : Int) < (b : Int)) = true := by rw [decide_eq_true_eq]; omega
theorem decge {a b : Nat} (h : ¬ a < b) : decide ((a : Int) < (b : Int)) = false := by rw [decide_eq_false_iff_not]; omega

/-- The two function values. -/
def lv (q : Nat) : Value := .func (.func 9) #[] #[.pointer (some ⟨q, 0, none⟩)]
def sv (g n cap : Nat) : Value := .func (.func 28) #[] #[.slice (some ⟨g, 0, none⟩) n cap, .pointer (some ⟨0, 36, none⟩)]
theorem handle36 : typeHandle Yba.prog 36 = .pointer (some ⟨0, 36, none⟩) := by kernel_rfl

theorem swap_run {g q n cap : Nat} {w : World} {l : List Rc} (hE : Env g q n cap w l) {i j : Nat} {x y : Rc} (hx : l[i]? = some x) (hy : l[j]? = some y) :
    ∃ w', (callFunc 28 (#[] ++ [Value.int .i64 (i : Int), .int .i64 (j : Int)].toArray ++ #[.slice (some ⟨g, 0, none⟩) n cap, .pointer (some ⟨0, 36, none⟩)])).run Yba.prog w = .ok (.value (.tuple #[])) w' ∧
      Env g q n cap w' ((l.set i y).set j x) ∧ w.grownBy w' (some g) := by
  have hi : i < l.length := (List.getElem?_eq_some_iff.1 hx).1
  have hj : j < l.length := (List.getElem?_eq_some_iff.1 hy).1
  obtain ⟨ie, hie, _, hs5, _⟩ := info_of in36
  have hsw := run_swap_cells (P := Yba.prog) false 36 ie hie (fun w => run_isAgg na36 w) g 0 n cap i j (by rw [← hE.len]; exact hi) (by rw [← hE.len]; exact hj) (enc x) (enc y) (by rw [hs5]; rfl) (by rw [hs5]; rfl) (enc_one x) (enc_one y) w
    (fun k v hv => by rw [hs5]; exact hE.row.cell hx hv) (fun k v hv => by rw [hs5]; exact hE.row.cell hy hv) (fun k _ => hE.row.frozen _) (fun k _ => hE.row.frozen _)
  rw [hs5] at hsw
  have h1 := hE.row.put hi y
  have h2 := h1.put (i := j) (by rw [List.length_set]; exact hj) x
  have g1 := grown_setCells w g (0 + i * 5) (enc y)
  have g2 := grown_setCells (w.setCells g (0 + i * 5) (enc y)) g (0 + j * 5) (enc x)
  have g3 := World.grownBy.trans' g1 g2
  refine ⟨_, ?_, ⟨h2, by rw [List.length_set, List.length_set]; exact hE.len, grown_heap g3 (fun e => hE.ne (by cases e; rfl)) hE.var, hE.ne⟩, g3⟩
  rw [run_callFunc_extern Yba.func28 (by kernel_rfl) (by kernel_rfl) (by kernel_rfl) (e := Extern.ReflectliteSwapper.swap false) (by kernel_rfl)]
  rw [handle36] at hsw
  rw [show (#[] ++ [Value.int .i64 (i : Int), .int .i64 (j : Int)].toArray ++ #[.slice (some ⟨g, 0, none⟩) n cap, .pointer (some ⟨0, 36, none⟩)]) = #[.int .i64 (i : Int), .int .i64 (j : Int), .slice (some ⟨g, 0, none⟩) n cap, .pointer (some ⟨0, 36, none⟩)] from rfl, hsw]
  rfl

/-- Inside one of the sort's functions: its own box D of the two function values. -/
structure St (g q n cap D : Nat) (w0 w : World) (l : List Rc) : Prop where
  env : Env g q n cap w l
  box : w.heap[D]? = some (.cells #[lv q, sv g n cap] 57 (0, 0))
  ne : D ≠ g
  grown : w0.grownBy w (some g)

section
variable {g q n cap D : Nat} {w0 w w' : World} {l l' : List Rc}
theorem St.start (h : Env g q n cap w l) : St g q n cap w.heap.size w (w.alloc (.cells #[lv q, sv g n cap] 57)) l := by
  have hb := below_new w (.cells #[lv q, sv g n cap] 57) (Nat.le_refl _)
  exact ⟨h.below hb, heap_new _ _, by have := h.row.lt; omega, grown_of_below hb _⟩
theorem St.below (h : St g q n cap D w0 w l) (hb : Below w.heap.size w w') : St g q n cap D w0 w' l :=
  ⟨h.env.below hb, below_heap hb (lt_of_heap h.box) h.box, h.ne, World.grownBy.trans' h.grown (grown_of_below hb _)⟩
theorem St.call (h : St g q n cap D w0 w l) (hE : Env g q n cap w' l') (hg : w.grownBy w' (some g)) : St g q n cap D w0 w' l' :=
  ⟨hE, grown_heap hg (fun e => h.ne (by cases e; rfl)) h.box, h.ne, World.grownBy.trans' h.grown hg⟩
theorem St.c0 (h : St g q n cap D w0 w l) : w.cell? ⟨D, 0 + 0, none⟩ = some (lv q) := by rw [cell_of h.box]; rfl
theorem St.c1 (h : St g q n cap D w0 w l) : w.cell? ⟨D, 0 + 1, none⟩ = some (sv g n cap) := by rw [cell_of h.box]; rfl
theorem St.all (h : St g q n cap D w0 w l) : ∀ j v, [lv q, sv g n cap][j]? = some v → w.cell? ⟨D, 0 + j, none⟩ = some v := fun j v hv => by rw [cell_of h.box, Nat.zero_add]; simpa using hv
end

theorem take_one {V : List Rc} {i : Nat} {y : Rc} (h : V[i]? = some y) : V.take (i + 1) = V.take i ++ [y] := by rw [List.take_add_one, h]; rfl
theorem drop_one {V : List Rc} {i : Nat} {y : Rc} (h : V[i]? = some y) : V.drop i = y :: V.drop (i + 1) := by
  have hi : i < V.length := (List.getElem?_eq_some_iff.1 h).1
  rw [List.drop_eq_getElem_cons hi, (List.getElem?_eq_some_iff.1 h).2]
theorem get_some {V : List Rc} {i : Nat} (h : i < V.length) : ∃ y, V[i]? = some y := ⟨_, List.getElem?_eq_getElem h⟩

section
variable {g q n cap : Nat}
theorem swapRange_any (hn : n ≤ 4096) (P U M V S : List Rc) (a b k : Nat) (w : World) (hE : Env g q n cap w (P ++ U ++ M ++ V ++ S)) (ha : a = P.length) (hU : U.length = k) (hV : V.length = k) (hb : b = a + k + M.length) :
    Calls Yba.prog 32 #[.agg #[lv q, sv g n cap], .int .i64 (a : Int), .int .i64 (b : Int), .int .i64 (k : Int)] w fun e w' => e = .returned (.tuple #[]) ∧ Env g q n cap w' (P ++ V ++ M ++ U ++ S) ∧ w.grownBy w' (some g) := by
  have hlen := hE.len
  simp only [List.length_append] at hlen
  refine calls_of Yba.func32 rfl Yba.ntmps32 rfl ?_
  refine WC.seq (WC.region ?_)
  refine WL.val rfl rfl (Runs.box rfl) ?_
  refine WL.nil ?_
  repeat (first | refine AtExit.thenRet ?_ | refine AtExit.thenExit ?_ | refine AtExit.blockRet ?_ | refine AtExit.blockEnd ?_ | refine AtExit.blockExit ?_ | (refine AtExit.blockPast ?_ ?_; rfl))
  refine AtExit.go ?_
  have hst := St.start hE
  change St g q n cap w.heap.size w (w.alloc (.cells (Value.agg #[lv q, sv g n cap]).cells 57)) _ at hst
  generalize w.alloc _ = w1 at hst ⊢
  generalize w.heap.size = D at hst ⊢
  refine WC.seq (WC.region ?_)
  repeat (first | (refine WL.val ?_ ?_ (Runs.move rfl) ?_; rfl; rfl) | (refine WL.val ?_ ?_ (Runs.assign rfl) ?_; rfl; rfl) | (refine WL.val ?_ ?_ (Runs.extract rfl rfl) ?_; rfl; rfl) | (refine WL.val ?_ ?_ (Runs.nilCheck rfl) ?_; rfl; rfl) | (refine WL.val ?_ ?_ (Runs.pickT rfl rfl) ?_; rfl; rfl) | (refine WL.val ?_ ?_ (Runs.pickF rfl rfl) ?_; rfl; rfl) | (refine WL.val ?_ ?_ (Runs.len rfl sl22) ?_; rfl; rfl) | (refine WL.val ?_ ?_ (Runs.len rfl sl27) ?_; rfl; rfl) | (refine WL.val ?_ ?_ (Runs.len rfl sl37) ?_; rfl; rfl) | (refine WL.pass ?_ ?_ ?_; rfl; rfl))
  refine WL.nil ?_
  repeat (first | refine AtExit.thenRet ?_ | refine AtExit.thenExit ?_ | refine AtExit.blockRet ?_ | refine AtExit.blockEnd ?_ | refine AtExit.blockExit ?_ | (refine AtExit.blockPast ?_ ?_; rfl))
  refine AtExit.go ?_
  refine WC.block ?_
  refine WC.loop (α := Nat) (fun i => [(1, .int .i64 (a : Int)), (2, .int .i64 (b : Int)), (3, .int .i64 (k : Int)), (4, .pointer (some ⟨D, 0, none⟩)), (8, .int .i64 (i : Int))])
    (fun i w' => i ≤ k ∧ St g q n cap D w w' (P ++ V.take i ++ U.drop i ++ M ++ U.take i ++ V.drop i ++ S)) (fun i => k - i) 0 (by repeat (first | exact Sub.nil _ | refine Sub.cons rfl ?_)) ⟨Nat.zero_le _, by simpa using hst⟩ ?_
  rintro i w' ⟨hi, hs⟩
  refine WC.seq ?_
  refine WC.seq (WC.region ?_)
  repeat (first | (refine WL.val ?_ ?_ (Runs.move rfl) ?_; rfl; rfl) | (refine WL.val ?_ ?_ (Runs.assign rfl) ?_; rfl; rfl) | (refine WL.val ?_ ?_ (Runs.extract rfl rfl) ?_; rfl; rfl) | (refine WL.val ?_ ?_ (Runs.nilCheck rfl) ?_; rfl; rfl) | (refine WL.val ?_ ?_ (Runs.pickT rfl rfl) ?_; rfl; rfl) | (refine WL.val ?_ ?_ (Runs.pickF rfl rfl) ?_; rfl; rfl) | (refine WL.val ?_ ?_ (Runs.len rfl sl22) ?_; rfl; rfl) | (refine WL.val ?_ ?_ (Runs.len rfl sl27) ?_; rfl; rfl) | (refine WL.val ?_ ?_ (Runs.len rfl sl37) ?_; rfl; rfl) | (refine WL.pass ?_ ?_ ?_; rfl; rfl))
  by_cases hik : i < k
  · refine WL.val rfl rfl (Runs.lss rfl rfl (declt hik)) ?_
    refine WL.nil ?_
    repeat (first | refine AtExit.thenRet ?_ | refine AtExit.thenExit ?_ | refine AtExit.blockRet ?_ | refine AtExit.blockEnd ?_ | refine AtExit.blockExit ?_ | (refine AtExit.blockPast ?_ ?_; rfl))
    refine AtExit.go ?_
    refine WC.condT rfl ?_
    refine WC.skip ?_
    repeat (first | refine AtExit.thenRet ?_ | refine AtExit.thenExit ?_ | refine AtExit.blockRet ?_ | refine AtExit.blockEnd ?_ | refine AtExit.blockExit ?_ | (refine AtExit.blockPast ?_ ?_; rfl))
    refine AtExit.go ?_
    refine WC.seq (WC.block ?_)
    obtain ⟨x, hx⟩ := get_some (V := U) (i := i) (by omega)
    obtain ⟨y, hy⟩ := get_some (V := V) (i := i) (by omega)
    have e1 : P ++ V.take i ++ U.drop i ++ M ++ U.take i ++ V.drop i ++ S = (P ++ V.take i) ++ x :: (U.drop (i + 1) ++ M ++ U.take i) ++ y :: (V.drop (i + 1) ++ S) := by
      rw [drop_one hx, drop_one hy]; simp
    have e2 : P ++ V.take (i + 1) ++ U.drop (i + 1) ++ M ++ U.take (i + 1) ++ V.drop (i + 1) ++ S = (P ++ V.take i) ++ y :: (U.drop (i + 1) ++ M ++ U.take i) ++ x :: (V.drop (i + 1) ++ S) := by
      rw [take_one hx, take_one hy]; simp
    have l1 : a + i = (P ++ V.take i).length := by simp; omega
    have l2 : b + i = (P ++ V.take i).length + 1 + (U.drop (i + 1) ++ M ++ U.take i).length := by simp; omega
    rw [e1] at hs
    obtain ⟨w2, hrun, hE2, hg2⟩ := swap_run hs.env (i := a + i) (j := b + i) (x := x) (y := y) (by rw [l1, List.append_assoc, List.cons_append]; exact get_at _ _ _) (by
      rw [l2]
      have := get_at (P ++ V.take i ++ x :: (U.drop (i + 1) ++ M ++ U.take i)) y (V.drop (i + 1) ++ S)
      rw [List.length_append, List.length_cons, ← Nat.add_assoc, Nat.add_right_comm] at this
      exact this)
    rw [swap_split _ _ _ _ _ _ _ l1 l2, ← e2] at hE2
    refine WC.region ?_
    refine WL.val rfl rfl (Runs.fld rfl fl57_1) ?_
    refine WL.val rfl rfl (Runs.load rfl na53 hs.c1) ?_
    repeat (first | (refine WL.val ?_ ?_ (Runs.move rfl) ?_; rfl; rfl) | (refine WL.val ?_ ?_ (Runs.assign rfl) ?_; rfl; rfl) | (refine WL.val ?_ ?_ (Runs.extract rfl rfl) ?_; rfl; rfl) | (refine WL.val ?_ ?_ (Runs.nilCheck rfl) ?_; rfl; rfl) | (refine WL.val ?_ ?_ (Runs.pickT rfl rfl) ?_; rfl; rfl) | (refine WL.val ?_ ?_ (Runs.pickF rfl rfl) ?_; rfl; rfl) | (refine WL.val ?_ ?_ (Runs.len rfl sl22) ?_; rfl; rfl) | (refine WL.val ?_ ?_ (Runs.len rfl sl27) ?_; rfl; rfl) | (refine WL.val ?_ ?_ (Runs.len rfl sl37) ?_; rfl; rfl) | (refine WL.pass ?_ ?_ ?_; rfl; rfl))
    refine WL.val rfl rfl (Runs.add rfl rfl (r := ((a + i : Nat) : Int)) (wI (by omega) (by omega) (by omega))) ?_
    repeat (first | (refine WL.val ?_ ?_ (Runs.move rfl) ?_; rfl; rfl) | (refine WL.val ?_ ?_ (Runs.assign rfl) ?_; rfl; rfl) | (refine WL.val ?_ ?_ (Runs.extract rfl rfl) ?_; rfl; rfl) | (refine WL.val ?_ ?_ (Runs.nilCheck rfl) ?_; rfl; rfl) | (refine WL.val ?_ ?_ (Runs.pickT rfl rfl) ?_; rfl; rfl) | (refine WL.val ?_ ?_ (Runs.pickF rfl rfl) ?_; rfl; rfl) | (refine WL.val ?_ ?_ (Runs.len rfl sl22) ?_; rfl; rfl) | (refine WL.val ?_ ?_ (Runs.len rfl sl27) ?_; rfl; rfl) | (refine WL.val ?_ ?_ (Runs.len rfl sl37) ?_; rfl; rfl) | (refine WL.pass ?_ ?_ ?_; rfl; rfl))
    refine WL.val rfl rfl (Runs.add rfl rfl (r := ((b + i : Nat) : Int)) (wI (by omega) (by omega) (by omega))) ?_
    refine WL.val rfl rfl (Runs.callX rfl rfl hrun) ?_
    refine WL.nil ?_
    repeat (first | refine AtExit.thenRet ?_ | refine AtExit.thenExit ?_ | refine AtExit.blockRet ?_ | refine AtExit.blockEnd ?_ | refine AtExit.blockExit ?_ | (refine AtExit.blockPast ?_ ?_; rfl))
    refine AtExit.go ?_
    refine WC.region ?_
    repeat (first | (refine WL.val ?_ ?_ (Runs.move rfl) ?_; rfl; rfl) | (refine WL.val ?_ ?_ (Runs.assign rfl) ?_; rfl; rfl) | (refine WL.val ?_ ?_ (Runs.extract rfl rfl) ?_; rfl; rfl) | (refine WL.val ?_ ?_ (Runs.nilCheck rfl) ?_; rfl; rfl) | (refine WL.val ?_ ?_ (Runs.pickT rfl rfl) ?_; rfl; rfl) | (refine WL.val ?_ ?_ (Runs.pickF rfl rfl) ?_; rfl; rfl) | (refine WL.val ?_ ?_ (Runs.len rfl sl22) ?_; rfl; rfl) | (refine WL.val ?_ ?_ (Runs.len rfl sl27) ?_; rfl; rfl) | (refine WL.val ?_ ?_ (Runs.len rfl sl37) ?_; rfl; rfl) | (refine WL.pass ?_ ?_ ?_; rfl; rfl))
    refine WL.val rfl rfl (Runs.add rfl rfl (r := ((i + 1 : Nat) : Int)) (wI (by omega) (by omega) (by omega))) ?_
    repeat (first | (refine WL.val ?_ ?_ (Runs.move rfl) ?_; rfl; rfl) | (refine WL.val ?_ ?_ (Runs.assign rfl) ?_; rfl; rfl) | (refine WL.val ?_ ?_ (Runs.extract rfl rfl) ?_; rfl; rfl) | (refine WL.val ?_ ?_ (Runs.nilCheck rfl) ?_; rfl; rfl) | (refine WL.val ?_ ?_ (Runs.pickT rfl rfl) ?_; rfl; rfl) | (refine WL.val ?_ ?_ (Runs.pickF rfl rfl) ?_; rfl; rfl) | (refine WL.val ?_ ?_ (Runs.len rfl sl22) ?_; rfl; rfl) | (refine WL.val ?_ ?_ (Runs.len rfl sl27) ?_; rfl; rfl) | (refine WL.val ?_ ?_ (Runs.len rfl sl37) ?_; rfl; rfl) | (refine WL.pass ?_ ?_ ?_; rfl; rfl))
    refine WL.nil ?_
    repeat (first | refine AtExit.thenRet ?_ | refine AtExit.thenExit ?_ | refine AtExit.blockRet ?_ | refine AtExit.blockEnd ?_ | refine AtExit.blockExit ?_ | (refine AtExit.blockPast ?_ ?_; rfl))
    refine AtExit.inv fun a ha => ⟨i + 1, ha.sub (by repeat (first | exact Sub.nil _ | refine Sub.cons rfl ?_)), ⟨by omega, hs.call hE2 hg2⟩, by omega⟩
  · refine WL.val rfl rfl (Runs.lss rfl rfl (decge hik)) ?_
    refine WL.nil ?_
    repeat (first | refine AtExit.thenRet ?_ | refine AtExit.thenExit ?_ | refine AtExit.blockRet ?_ | refine AtExit.blockEnd ?_ | refine AtExit.blockExit ?_ | (refine AtExit.blockPast ?_ ?_; rfl))
    refine AtExit.go ?_
    refine WC.condF rfl ?_
    have : i = k := by omega
    subst this
    have d1 : U.drop i = [] := List.drop_eq_nil_of_le (by omega)
    have d2 : V.drop i = [] := List.drop_eq_nil_of_le (by omega)
    have d3 : U.take i = U := List.take_of_length_le (by omega)
    have d4 : V.take i = V := List.take_of_length_le (by omega)
    rw [d1, d2, d3, d4, List.append_nil, List.append_nil] at hs
    refine WC.exit ?_
    repeat (first | refine AtExit.thenRet ?_ | refine AtExit.thenExit ?_ | refine AtExit.blockRet ?_ | refine AtExit.blockEnd ?_ | refine AtExit.blockExit ?_ | (refine AtExit.blockPast ?_ ?_; rfl))
    exact post0e rfl ⟨rfl, hs.env, hs.grown⟩

theorem rotate_any (hn : n ≤ 4096) (P A B S : List Rc) (a m b : Nat) (w : World) (hE : Env g q n cap w (P ++ A ++ B ++ S)) (ha : a = P.length) (hm : m = a + A.length) (hb : b = m + B.length) (hA : 0 < A.length) (hB : 0 < B.length) :
    Calls Yba.prog 31 #[.agg #[lv q, sv g n cap], .int .i64 (a : Int), .int .i64 (m : Int), .int .i64 (b : Int)] w fun e w' => e = .returned (.tuple #[]) ∧ Env g q n cap w' (P ++ B ++ A ++ S) ∧ w.grownBy w' (some g) := by
  have hlen := hE.len
  simp only [List.length_append] at hlen
  refine calls_of Yba.func31 rfl Yba.ntmps31 rfl ?_
  refine WC.seq (WC.region ?_)
  refine WL.val rfl rfl (Runs.box rfl) ?_
  refine WL.nil ?_
  repeat (first | refine AtExit.thenRet ?_ | refine AtExit.thenExit ?_ | refine AtExit.blockRet ?_ | refine AtExit.blockEnd ?_ | refine AtExit.blockExit ?_ | (refine AtExit.blockPast ?_ ?_; rfl))
  refine AtExit.go ?_
  have hst := St.start hE
  change St g q n cap w.heap.size w (w.alloc (.cells (Value.agg #[lv q, sv g n cap]).cells 57)) _ at hst
  generalize w.alloc _ = w1 at hst ⊢
  generalize w.heap.size = D at hst ⊢
  refine WC.seq (WC.region ?_)
  repeat (first | (refine WL.val ?_ ?_ (Runs.move rfl) ?_; rfl; rfl) | (refine WL.val ?_ ?_ (Runs.assign rfl) ?_; rfl; rfl) | (refine WL.val ?_ ?_ (Runs.extract rfl rfl) ?_; rfl; rfl) | (refine WL.val ?_ ?_ (Runs.nilCheck rfl) ?_; rfl; rfl) | (refine WL.val ?_ ?_ (Runs.pickT rfl rfl) ?_; rfl; rfl) | (refine WL.val ?_ ?_ (Runs.pickF rfl rfl) ?_; rfl; rfl) | (refine WL.val ?_ ?_ (Runs.len rfl sl22) ?_; rfl; rfl) | (refine WL.val ?_ ?_ (Runs.len rfl sl27) ?_; rfl; rfl) | (refine WL.val ?_ ?_ (Runs.len rfl sl37) ?_; rfl; rfl) | (refine WL.pass ?_ ?_ ?_; rfl; rfl))
  refine WL.val rfl rfl (Runs.sub rfl rfl (r := (A.length : Int)) (wI (by omega) (by omega) (by omega))) ?_
  repeat (first | (refine WL.val ?_ ?_ (Runs.move rfl) ?_; rfl; rfl) | (refine WL.val ?_ ?_ (Runs.assign rfl) ?_; rfl; rfl) | (refine WL.val ?_ ?_ (Runs.extract rfl rfl) ?_; rfl; rfl) | (refine WL.val ?_ ?_ (Runs.nilCheck rfl) ?_; rfl; rfl) | (refine WL.val ?_ ?_ (Runs.pickT rfl rfl) ?_; rfl; rfl) | (refine WL.val ?_ ?_ (Runs.pickF rfl rfl) ?_; rfl; rfl) | (refine WL.val ?_ ?_ (Runs.len rfl sl22) ?_; rfl; rfl) | (refine WL.val ?_ ?_ (Runs.len rfl sl27) ?_; rfl; rfl) | (refine WL.val ?_ ?_ (Runs.len rfl sl37) ?_; rfl; rfl) | (refine WL.pass ?_ ?_ ?_; rfl; rfl))
  refine WL.nil ?_
  repeat (first | refine AtExit.thenRet ?_ | refine AtExit.thenExit ?_ | refine AtExit.blockRet ?_ | refine AtExit.blockEnd ?_ | refine AtExit.blockExit ?_ | (refine AtExit.blockPast ?_ ?_; rfl))
  refine AtExit.go ?_
  refine WC.seq (WC.region ?_)
  repeat (first | (refine WL.val ?_ ?_ (Runs.move rfl) ?_; rfl; rfl) | (refine WL.val ?_ ?_ (Runs.assign rfl) ?_; rfl; rfl) | (refine WL.val ?_ ?_ (Runs.extract rfl rfl) ?_; rfl; rfl) | (refine WL.val ?_ ?_ (Runs.nilCheck rfl) ?_; rfl; rfl) | (refine WL.val ?_ ?_ (Runs.pickT rfl rfl) ?_; rfl; rfl) | (refine WL.val ?_ ?_ (Runs.pickF rfl rfl) ?_; rfl; rfl) | (refine WL.val ?_ ?_ (Runs.len rfl sl22) ?_; rfl; rfl) | (refine WL.val ?_ ?_ (Runs.len rfl sl27) ?_; rfl; rfl) | (refine WL.val ?_ ?_ (Runs.len rfl sl37) ?_; rfl; rfl) | (refine WL.pass ?_ ?_ ?_; rfl; rfl))
  refine WL.val rfl rfl (Runs.sub rfl rfl (r := (B.length : Int)) (wI (by omega) (by omega) (by omega))) ?_
  repeat (first | (refine WL.val ?_ ?_ (Runs.move rfl) ?_; rfl; rfl) | (refine WL.val ?_ ?_ (Runs.assign rfl) ?_; rfl; rfl) | (refine WL.val ?_ ?_ (Runs.extract rfl rfl) ?_; rfl; rfl) | (refine WL.val ?_ ?_ (Runs.nilCheck rfl) ?_; rfl; rfl) | (refine WL.val ?_ ?_ (Runs.pickT rfl rfl) ?_; rfl; rfl) | (refine WL.val ?_ ?_ (Runs.pickF rfl rfl) ?_; rfl; rfl) | (refine WL.val ?_ ?_ (Runs.len rfl sl22) ?_; rfl; rfl) | (refine WL.val ?_ ?_ (Runs.len rfl sl27) ?_; rfl; rfl) | (refine WL.val ?_ ?_ (Runs.len rfl sl37) ?_; rfl; rfl) | (refine WL.pass ?_ ?_ ?_; rfl; rfl))
  refine WL.nil ?_
  repeat (first | refine AtExit.thenRet ?_ | refine AtExit.thenExit ?_ | refine AtExit.blockRet ?_ | refine AtExit.blockEnd ?_ | refine AtExit.blockExit ?_ | (refine AtExit.blockPast ?_ ?_; rfl))
  refine AtExit.go ?_
  refine WC.cut (α := List Rc × List Rc × List Rc × List Rc) (fun | (_, A', _, _) => [(2, .int .i64 (m : Int)), (4, .pointer (some ⟨D, 0, none⟩)), (8, .int .i64 (A'.length : Int))])
    (fun | (L, A', B', R) => fun w' => A'.length = B'.length ∧ L.length + A'.length = m ∧ L ++ B' ++ A' ++ R = P ++ B ++ A ++ S ∧ St g q n cap D w w' (L ++ A' ++ B' ++ R)) ?_ ?_
  · refine WC.block ?_
    refine WC.loop (α := List Rc × List Rc × List Rc × List Rc) (fun | (_, A', B', _) => [(2, .int .i64 (m : Int)), (4, .pointer (some ⟨D, 0, none⟩)), (8, .int .i64 (A'.length : Int)), (9, .int .i64 (B'.length : Int))])
      (fun | (L, A', B', R) => fun w' => 0 < A'.length ∧ 0 < B'.length ∧ L.length + A'.length = m ∧ L ++ B' ++ A' ++ R = P ++ B ++ A ++ S ∧ St g q n cap D w w' (L ++ A' ++ B' ++ R)) (fun | (_, A', B', _) => A'.length + B'.length)
      (P, A, B, S) (by repeat (first | exact Sub.nil _ | refine Sub.cons rfl ?_)) ⟨hA, hB, by omega, rfl, hst⟩ ?_
    rintro ⟨L, A', B', R⟩ w' ⟨hA', hB', hm', heq, hs⟩
    have hl' := hs.env.len
    simp only [List.length_append] at hl'
    refine WC.seq ?_
    refine WC.seq (WC.region ?_)
    repeat (first | (refine WL.val ?_ ?_ (Runs.move rfl) ?_; rfl; rfl) | (refine WL.val ?_ ?_ (Runs.assign rfl) ?_; rfl; rfl) | (refine WL.val ?_ ?_ (Runs.extract rfl rfl) ?_; rfl; rfl) | (refine WL.val ?_ ?_ (Runs.nilCheck rfl) ?_; rfl; rfl) | (refine WL.val ?_ ?_ (Runs.pickT rfl rfl) ?_; rfl; rfl) | (refine WL.val ?_ ?_ (Runs.pickF rfl rfl) ?_; rfl; rfl) | (refine WL.val ?_ ?_ (Runs.len rfl sl22) ?_; rfl; rfl) | (refine WL.val ?_ ?_ (Runs.len rfl sl27) ?_; rfl; rfl) | (refine WL.val ?_ ?_ (Runs.len rfl sl37) ?_; rfl; rfl) | (refine WL.pass ?_ ?_ ?_; rfl; rfl))
    by_cases hne : A'.length = B'.length
    · refine WL.val rfl rfl (Runs.neq rfl rfl (r := false) (by rw [hne]; simp)) ?_
      refine WL.nil ?_
      repeat (first | refine AtExit.thenRet ?_ | refine AtExit.thenExit ?_ | refine AtExit.blockRet ?_ | refine AtExit.blockEnd ?_ | refine AtExit.blockExit ?_ | (refine AtExit.blockPast ?_ ?_; rfl))
      refine AtExit.go ?_
      refine WC.condF rfl ?_
      refine WC.exit ?_
      repeat (first | refine AtExit.thenRet ?_ | refine AtExit.thenExit ?_ | refine AtExit.blockRet ?_ | refine AtExit.blockEnd ?_ | refine AtExit.blockExit ?_ | (refine AtExit.blockPast ?_ ?_; rfl))
      refine AtExit.inv fun a ha => ⟨(L, A', B', R), ha.sub (by repeat (first | exact Sub.nil _ | refine Sub.cons rfl ?_)), hne, hm', heq, hs⟩
    · refine WL.val rfl rfl (Runs.neq rfl rfl (r := true) (by rw [decide_eq_false (by omega)]; rfl)) ?_
      refine WL.nil ?_
      repeat (first | refine AtExit.thenRet ?_ | refine AtExit.thenExit ?_ | refine AtExit.blockRet ?_ | refine AtExit.blockEnd ?_ | refine AtExit.blockExit ?_ | (refine AtExit.blockPast ?_ ?_; rfl))
      refine AtExit.go ?_
      refine WC.condT rfl ?_
      refine WC.skip ?_
      repeat (first | refine AtExit.thenRet ?_ | refine AtExit.thenExit ?_ | refine AtExit.blockRet ?_ | refine AtExit.blockEnd ?_ | refine AtExit.blockExit ?_ | (refine AtExit.blockPast ?_ ?_; rfl))
      refine AtExit.go ?_
      refine WC.block ?_
      refine WC.seq (WC.region ?_)
      repeat (first | (refine WL.val ?_ ?_ (Runs.move rfl) ?_; rfl; rfl) | (refine WL.val ?_ ?_ (Runs.assign rfl) ?_; rfl; rfl) | (refine WL.val ?_ ?_ (Runs.extract rfl rfl) ?_; rfl; rfl) | (refine WL.val ?_ ?_ (Runs.nilCheck rfl) ?_; rfl; rfl) | (refine WL.val ?_ ?_ (Runs.pickT rfl rfl) ?_; rfl; rfl) | (refine WL.val ?_ ?_ (Runs.pickF rfl rfl) ?_; rfl; rfl) | (refine WL.val ?_ ?_ (Runs.len rfl sl22) ?_; rfl; rfl) | (refine WL.val ?_ ?_ (Runs.len rfl sl27) ?_; rfl; rfl) | (refine WL.val ?_ ?_ (Runs.len rfl sl37) ?_; rfl; rfl) | (refine WL.pass ?_ ?_ ?_; rfl; rfl))
      by_cases hgt : B'.length < A'.length
      · refine WL.val rfl rfl (Runs.gtr rfl rfl (declt hgt)) ?_
        refine WL.nil ?_
        repeat (first | refine AtExit.thenRet ?_ | refine AtExit.thenExit ?_ | refine AtExit.blockRet ?_ | refine AtExit.blockEnd ?_ | refine AtExit.blockExit ?_ | (refine AtExit.blockPast ?_ ?_; rfl))
        refine AtExit.go ?_
        refine WC.condT rfl ?_
        refine WC.seq (WC.region ?_)
        refine WL.val rfl rfl (Runs.loadAgg (cs := [lv q, sv g n cap]) rfl na57 sz57 hs.all) ?_
        repeat (first | (refine WL.val ?_ ?_ (Runs.move rfl) ?_; rfl; rfl) | (refine WL.val ?_ ?_ (Runs.assign rfl) ?_; rfl; rfl) | (refine WL.val ?_ ?_ (Runs.extract rfl rfl) ?_; rfl; rfl) | (refine WL.val ?_ ?_ (Runs.nilCheck rfl) ?_; rfl; rfl) | (refine WL.val ?_ ?_ (Runs.pickT rfl rfl) ?_; rfl; rfl) | (refine WL.val ?_ ?_ (Runs.pickF rfl rfl) ?_; rfl; rfl) | (refine WL.val ?_ ?_ (Runs.len rfl sl22) ?_; rfl; rfl) | (refine WL.val ?_ ?_ (Runs.len rfl sl27) ?_; rfl; rfl) | (refine WL.val ?_ ?_ (Runs.len rfl sl37) ?_; rfl; rfl) | (refine WL.pass ?_ ?_ ?_; rfl; rfl))
        refine WL.val rfl rfl (Runs.sub rfl rfl (r := (L.length : Int)) (wI (by omega) (by omega) (by omega))) ?_
        repeat (first | (refine WL.val ?_ ?_ (Runs.move rfl) ?_; rfl; rfl) | (refine WL.val ?_ ?_ (Runs.assign rfl) ?_; rfl; rfl) | (refine WL.val ?_ ?_ (Runs.extract rfl rfl) ?_; rfl; rfl) | (refine WL.val ?_ ?_ (Runs.nilCheck rfl) ?_; rfl; rfl) | (refine WL.val ?_ ?_ (Runs.pickT rfl rfl) ?_; rfl; rfl) | (refine WL.val ?_ ?_ (Runs.pickF rfl rfl) ?_; rfl; rfl) | (refine WL.val ?_ ?_ (Runs.len rfl sl22) ?_; rfl; rfl) | (refine WL.val ?_ ?_ (Runs.len rfl sl27) ?_; rfl; rfl) | (refine WL.val ?_ ?_ (Runs.len rfl sl37) ?_; rfl; rfl) | (refine WL.pass ?_ ?_ ?_; rfl; rfl))
        have hE' : Env g q n cap w' (L ++ A'.take B'.length ++ A'.drop B'.length ++ B' ++ R) := by
          rw [List.append_assoc L, List.take_append_drop]; exact hs.env
        have t1 : (A'.take B'.length).length = B'.length := by simp; omega
        have t2 : (A'.drop B'.length).length = A'.length - B'.length := by simp
        refine WL.call rfl rfl (RunsC.call rfl en32) (swapRange_any hn L (A'.take B'.length) (A'.drop B'.length) B' R L.length m B'.length w' hE' rfl t1 rfl (by omega)) ?_
        rintro e w2 ⟨rfl, hE2, hg2⟩
        refine ⟨_, rfl, ?_⟩
        refine WL.nil ?_
        repeat (first | refine AtExit.thenRet ?_ | refine AtExit.thenExit ?_ | refine AtExit.blockRet ?_ | refine AtExit.blockEnd ?_ | refine AtExit.blockExit ?_ | (refine AtExit.blockPast ?_ ?_; rfl))
        refine AtExit.go ?_
        refine WC.region ?_
        repeat (first | (refine WL.val ?_ ?_ (Runs.move rfl) ?_; rfl; rfl) | (refine WL.val ?_ ?_ (Runs.assign rfl) ?_; rfl; rfl) | (refine WL.val ?_ ?_ (Runs.extract rfl rfl) ?_; rfl; rfl) | (refine WL.val ?_ ?_ (Runs.nilCheck rfl) ?_; rfl; rfl) | (refine WL.val ?_ ?_ (Runs.pickT rfl rfl) ?_; rfl; rfl) | (refine WL.val ?_ ?_ (Runs.pickF rfl rfl) ?_; rfl; rfl) | (refine WL.val ?_ ?_ (Runs.len rfl sl22) ?_; rfl; rfl) | (refine WL.val ?_ ?_ (Runs.len rfl sl27) ?_; rfl; rfl) | (refine WL.val ?_ ?_ (Runs.len rfl sl37) ?_; rfl; rfl) | (refine WL.pass ?_ ?_ ?_; rfl; rfl))
        refine WL.val rfl rfl (Runs.sub rfl rfl (r := ((A'.drop B'.length).length : Int)) (wI (by omega) (by omega) (by omega))) ?_
        repeat (first | (refine WL.val ?_ ?_ (Runs.move rfl) ?_; rfl; rfl) | (refine WL.val ?_ ?_ (Runs.assign rfl) ?_; rfl; rfl) | (refine WL.val ?_ ?_ (Runs.extract rfl rfl) ?_; rfl; rfl) | (refine WL.val ?_ ?_ (Runs.nilCheck rfl) ?_; rfl; rfl) | (refine WL.val ?_ ?_ (Runs.pickT rfl rfl) ?_; rfl; rfl) | (refine WL.val ?_ ?_ (Runs.pickF rfl rfl) ?_; rfl; rfl) | (refine WL.val ?_ ?_ (Runs.len rfl sl22) ?_; rfl; rfl) | (refine WL.val ?_ ?_ (Runs.len rfl sl27) ?_; rfl; rfl) | (refine WL.val ?_ ?_ (Runs.len rfl sl37) ?_; rfl; rfl) | (refine WL.pass ?_ ?_ ?_; rfl; rfl))
        have h2 := hs.call hE2 hg2
        refine WL.nil ?_
        repeat (first | refine AtExit.thenRet ?_ | refine AtExit.thenExit ?_ | refine AtExit.blockRet ?_ | refine AtExit.blockEnd ?_ | refine AtExit.blockExit ?_ | (refine AtExit.blockPast ?_ ?_; rfl))
        refine AtExit.inv fun a ha => ⟨(L ++ B', A'.drop B'.length, A'.take B'.length, R), ha.sub ?_, ⟨by omega, by omega, by rw [List.length_append]; omega, ?_, h2⟩, ?_⟩
        · show Fr.Sub [(2, .int .i64 (m : Int)), (4, .pointer (some ⟨D, 0, none⟩)), (8, .int .i64 ((A'.drop B'.length).length : Int)), (9, .int .i64 ((A'.take B'.length).length : Int))] _
          rw [t1]
          exact (by repeat (first | exact Sub.nil _ | refine Sub.cons rfl ?_))
        · rw [← heq, List.append_assoc (L ++ B'), List.take_append_drop]
        · show (A'.drop B'.length).length + (A'.take B'.length).length < A'.length + B'.length
          omega
      · refine WL.val rfl rfl (Runs.gtr rfl rfl (decge hgt)) ?_
        refine WL.nil ?_
        repeat (first | refine AtExit.thenRet ?_ | refine AtExit.thenExit ?_ | refine AtExit.blockRet ?_ | refine AtExit.blockEnd ?_ | refine AtExit.blockExit ?_ | (refine AtExit.blockPast ?_ ?_; rfl))
        refine AtExit.go ?_
        refine WC.condF rfl ?_
        refine WC.seq (WC.region ?_)
        refine WL.val rfl rfl (Runs.loadAgg (cs := [lv q, sv g n cap]) rfl na57 sz57 hs.all) ?_
        repeat (first | (refine WL.val ?_ ?_ (Runs.move rfl) ?_; rfl; rfl) | (refine WL.val ?_ ?_ (Runs.assign rfl) ?_; rfl; rfl) | (refine WL.val ?_ ?_ (Runs.extract rfl rfl) ?_; rfl; rfl) | (refine WL.val ?_ ?_ (Runs.nilCheck rfl) ?_; rfl; rfl) | (refine WL.val ?_ ?_ (Runs.pickT rfl rfl) ?_; rfl; rfl) | (refine WL.val ?_ ?_ (Runs.pickF rfl rfl) ?_; rfl; rfl) | (refine WL.val ?_ ?_ (Runs.len rfl sl22) ?_; rfl; rfl) | (refine WL.val ?_ ?_ (Runs.len rfl sl27) ?_; rfl; rfl) | (refine WL.val ?_ ?_ (Runs.len rfl sl37) ?_; rfl; rfl) | (refine WL.pass ?_ ?_ ?_; rfl; rfl))
        refine WL.val rfl rfl (Runs.sub rfl rfl (r := (L.length : Int)) (wI (by omega) (by omega) (by omega))) ?_
        repeat (first | (refine WL.val ?_ ?_ (Runs.move rfl) ?_; rfl; rfl) | (refine WL.val ?_ ?_ (Runs.assign rfl) ?_; rfl; rfl) | (refine WL.val ?_ ?_ (Runs.extract rfl rfl) ?_; rfl; rfl) | (refine WL.val ?_ ?_ (Runs.nilCheck rfl) ?_; rfl; rfl) | (refine WL.val ?_ ?_ (Runs.pickT rfl rfl) ?_; rfl; rfl) | (refine WL.val ?_ ?_ (Runs.pickF rfl rfl) ?_; rfl; rfl) | (refine WL.val ?_ ?_ (Runs.len rfl sl22) ?_; rfl; rfl) | (refine WL.val ?_ ?_ (Runs.len rfl sl27) ?_; rfl; rfl) | (refine WL.val ?_ ?_ (Runs.len rfl sl37) ?_; rfl; rfl) | (refine WL.pass ?_ ?_ ?_; rfl; rfl))
        refine WL.val rfl rfl (Runs.add rfl rfl (r := ((m + B'.length : Nat) : Int)) (wI (by omega) (by omega) (by omega))) ?_
        repeat (first | (refine WL.val ?_ ?_ (Runs.move rfl) ?_; rfl; rfl) | (refine WL.val ?_ ?_ (Runs.assign rfl) ?_; rfl; rfl) | (refine WL.val ?_ ?_ (Runs.extract rfl rfl) ?_; rfl; rfl) | (refine WL.val ?_ ?_ (Runs.nilCheck rfl) ?_; rfl; rfl) | (refine WL.val ?_ ?_ (Runs.pickT rfl rfl) ?_; rfl; rfl) | (refine WL.val ?_ ?_ (Runs.pickF rfl rfl) ?_; rfl; rfl) | (refine WL.val ?_ ?_ (Runs.len rfl sl22) ?_; rfl; rfl) | (refine WL.val ?_ ?_ (Runs.len rfl sl27) ?_; rfl; rfl) | (refine WL.val ?_ ?_ (Runs.len rfl sl37) ?_; rfl; rfl) | (refine WL.pass ?_ ?_ ?_; rfl; rfl))
        refine WL.val rfl rfl (Runs.sub rfl rfl (r := ((m + B'.length - A'.length : Nat) : Int)) (wI (by omega) (by omega) (by omega))) ?_
        repeat (first | (refine WL.val ?_ ?_ (Runs.move rfl) ?_; rfl; rfl) | (refine WL.val ?_ ?_ (Runs.assign rfl) ?_; rfl; rfl) | (refine WL.val ?_ ?_ (Runs.extract rfl rfl) ?_; rfl; rfl) | (refine WL.val ?_ ?_ (Runs.nilCheck rfl) ?_; rfl; rfl) | (refine WL.val ?_ ?_ (Runs.pickT rfl rfl) ?_; rfl; rfl) | (refine WL.val ?_ ?_ (Runs.pickF rfl rfl) ?_; rfl; rfl) | (refine WL.val ?_ ?_ (Runs.len rfl sl22) ?_; rfl; rfl) | (refine WL.val ?_ ?_ (Runs.len rfl sl27) ?_; rfl; rfl) | (refine WL.val ?_ ?_ (Runs.len rfl sl37) ?_; rfl; rfl) | (refine WL.pass ?_ ?_ ?_; rfl; rfl))
        generalize hc : B'.length - A'.length = c
        have hE' : Env g q n cap w' (L ++ A' ++ B'.take c ++ B'.drop c ++ R) := by
          rw [List.append_assoc (L ++ A'), List.take_append_drop]; exact hs.env
        have t1 : (B'.take c).length = c := by simp; omega
        have t2 : (B'.drop c).length = A'.length := by simp; omega
        refine WL.call rfl rfl (RunsC.call rfl en32) (swapRange_any hn L A' (B'.take c) (B'.drop c) R L.length (m + B'.length - A'.length) A'.length w' hE' rfl rfl t2 (by omega)) ?_
        rintro e w2 ⟨rfl, hE2, hg2⟩
        refine ⟨_, rfl, ?_⟩
        refine WL.nil ?_
        repeat (first | refine AtExit.thenRet ?_ | refine AtExit.thenExit ?_ | refine AtExit.blockRet ?_ | refine AtExit.blockEnd ?_ | refine AtExit.blockExit ?_ | (refine AtExit.blockPast ?_ ?_; rfl))
        refine AtExit.go ?_
        refine WC.region ?_
        repeat (first | (refine WL.val ?_ ?_ (Runs.move rfl) ?_; rfl; rfl) | (refine WL.val ?_ ?_ (Runs.assign rfl) ?_; rfl; rfl) | (refine WL.val ?_ ?_ (Runs.extract rfl rfl) ?_; rfl; rfl) | (refine WL.val ?_ ?_ (Runs.nilCheck rfl) ?_; rfl; rfl) | (refine WL.val ?_ ?_ (Runs.pickT rfl rfl) ?_; rfl; rfl) | (refine WL.val ?_ ?_ (Runs.pickF rfl rfl) ?_; rfl; rfl) | (refine WL.val ?_ ?_ (Runs.len rfl sl22) ?_; rfl; rfl) | (refine WL.val ?_ ?_ (Runs.len rfl sl27) ?_; rfl; rfl) | (refine WL.val ?_ ?_ (Runs.len rfl sl37) ?_; rfl; rfl) | (refine WL.pass ?_ ?_ ?_; rfl; rfl))
        refine WL.val rfl rfl (Runs.sub rfl rfl (r := ((B'.take c).length : Int)) (wI (by omega) (by omega) (by omega))) ?_
        repeat (first | (refine WL.val ?_ ?_ (Runs.move rfl) ?_; rfl; rfl) | (refine WL.val ?_ ?_ (Runs.assign rfl) ?_; rfl; rfl) | (refine WL.val ?_ ?_ (Runs.extract rfl rfl) ?_; rfl; rfl) | (refine WL.val ?_ ?_ (Runs.nilCheck rfl) ?_; rfl; rfl) | (refine WL.val ?_ ?_ (Runs.pickT rfl rfl) ?_; rfl; rfl) | (refine WL.val ?_ ?_ (Runs.pickF rfl rfl) ?_; rfl; rfl) | (refine WL.val ?_ ?_ (Runs.len rfl sl22) ?_; rfl; rfl) | (refine WL.val ?_ ?_ (Runs.len rfl sl27) ?_; rfl; rfl) | (refine WL.val ?_ ?_ (Runs.len rfl sl37) ?_; rfl; rfl) | (refine WL.pass ?_ ?_ ?_; rfl; rfl))
        have h2 := hs.call hE2 hg2
        refine WL.nil ?_
        repeat (first | refine AtExit.thenRet ?_ | refine AtExit.thenExit ?_ | refine AtExit.blockRet ?_ | refine AtExit.blockEnd ?_ | refine AtExit.blockExit ?_ | (refine AtExit.blockPast ?_ ?_; rfl))
        refine AtExit.inv fun a ha => ⟨(L, B'.drop c, B'.take c, A' ++ R), ha.sub ?_, ⟨by omega, by omega, by omega, ?_, ?_⟩, ?_⟩
        · show Fr.Sub [(2, .int .i64 (m : Int)), (4, .pointer (some ⟨D, 0, none⟩)), (8, .int .i64 ((B'.drop c).length : Int)), (9, .int .i64 ((B'.take c).length : Int))] _
          rw [t2]
          exact (by repeat (first | exact Sub.nil _ | refine Sub.cons rfl ?_))
        · rw [← heq, List.append_assoc L, List.take_append_drop]; simp
        · rw [← List.append_assoc]; exact h2
        · show (B'.drop c).length + (B'.take c).length < A'.length + B'.length
          omega
  · rintro ⟨L, A', B', R⟩ w' ⟨hl, hm', heq, hs⟩
    have hl' := hs.env.len
    simp only [List.length_append] at hl'
    refine WC.region ?_
    refine WL.val rfl rfl (Runs.loadAgg (cs := [lv q, sv g n cap]) rfl na57 sz57 hs.all) ?_
    repeat (first | (refine WL.val ?_ ?_ (Runs.move rfl) ?_; rfl; rfl) | (refine WL.val ?_ ?_ (Runs.assign rfl) ?_; rfl; rfl) | (refine WL.val ?_ ?_ (Runs.extract rfl rfl) ?_; rfl; rfl) | (refine WL.val ?_ ?_ (Runs.nilCheck rfl) ?_; rfl; rfl) | (refine WL.val ?_ ?_ (Runs.pickT rfl rfl) ?_; rfl; rfl) | (refine WL.val ?_ ?_ (Runs.pickF rfl rfl) ?_; rfl; rfl) | (refine WL.val ?_ ?_ (Runs.len rfl sl22) ?_; rfl; rfl) | (refine WL.val ?_ ?_ (Runs.len rfl sl27) ?_; rfl; rfl) | (refine WL.val ?_ ?_ (Runs.len rfl sl37) ?_; rfl; rfl) | (refine WL.pass ?_ ?_ ?_; rfl; rfl))
    refine WL.val rfl rfl (Runs.sub rfl rfl (r := (L.length : Int)) (wI (by omega) (by omega) (by omega))) ?_
    repeat (first | (refine WL.val ?_ ?_ (Runs.move rfl) ?_; rfl; rfl) | (refine WL.val ?_ ?_ (Runs.assign rfl) ?_; rfl; rfl) | (refine WL.val ?_ ?_ (Runs.extract rfl rfl) ?_; rfl; rfl) | (refine WL.val ?_ ?_ (Runs.nilCheck rfl) ?_; rfl; rfl) | (refine WL.val ?_ ?_ (Runs.pickT rfl rfl) ?_; rfl; rfl) | (refine WL.val ?_ ?_ (Runs.pickF rfl rfl) ?_; rfl; rfl) | (refine WL.val ?_ ?_ (Runs.len rfl sl22) ?_; rfl; rfl) | (refine WL.val ?_ ?_ (Runs.len rfl sl27) ?_; rfl; rfl) | (refine WL.val ?_ ?_ (Runs.len rfl sl37) ?_; rfl; rfl) | (refine WL.pass ?_ ?_ ?_; rfl; rfl))
    refine WL.call rfl rfl (RunsC.call rfl en32) (swapRange_any hn L A' [] B' R L.length m A'.length w' (by rw [List.append_nil]; exact hs.env) rfl rfl hl.symm (by simp; omega)) ?_
    rintro e w2 ⟨rfl, hE2, hg2⟩
    refine ⟨_, rfl, ?_⟩
    refine WL.nil ?_
    rw [List.append_nil, heq] at hE2
    exact post0e rfl ⟨rfl, hE2, World.grownBy.trans' hs.grown hg2⟩
end
end Go.Proofs.Ybulkgfau
