/- The clock's queue of timers: Len, Less, Swap. -/
import Derived.Test.YbulkgfdmStill
import Derived.Maps.AppendAt
namespace Go.Proofs.Ybulkgfdm
open Go Go.Fr Go.RowKit

/-! ### Rows of one-cell elements -/
section
variable {w : World} {N e g n cap : Nat} {v : Value} {xs : List Value}
theorem own_row (h : w.ownsRow N e 1 v n xs) (hn : 0 < n) : ∃ g cap, v = .slice (some ⟨g, 0, none⟩) n cap := by
  rcases h.2 with ⟨_, h0⟩ | ⟨g, cap, cur, hv, _⟩
  · omega
  · exact ⟨g, cap, hv⟩
theorem own_shape (h : w.ownsRow N e 1 v n xs) : ∃ p c, v = .slice p n c := by
  rcases h.2 with ⟨rfl, h0⟩ | ⟨g, cap, cur, rfl, _⟩
  · exact ⟨none, 0, by rw [h0]⟩
  · exact ⟨_, _, rfl⟩
theorem own_in (h : w.ownsRow N e 1 (.slice (some ⟨g, 0, none⟩) n cap) n xs) : ∃ cur, N ≤ g ∧ w.heap[g]? = some (.cells cur e (0, 0)) ∧ n ≤ cap ∧ cap ≤ maxLen ∧ cur.size = cap ∧ cur.toList.take n = xs := by
  rcases h.2 with ⟨hv, _⟩ | ⟨g', cap', cur, hv, hb, hg, h1, h2, h3, h4⟩
  · cases hv
  · cases hv
    exact ⟨cur, hb, hg, h1, h2, by simpa using h3, by simpa using h4⟩
theorem own_cell (h : w.ownsRow N e 1 (.slice (some ⟨g, 0, none⟩) n cap) n xs) {i : Nat} {u : Value} (hi : xs[i]? = some u) : w.cell? ⟨g, 0 + i, none⟩ = some u := by
  obtain ⟨cur, _, hg, _, _, _, ht⟩ := own_in h
  rw [cell_of hg, Nat.zero_add]
  rw [← ht, List.getElem?_take] at hi
  split at hi
  · simpa using hi
  · cases hi
theorem own_frozen (h : w.ownsRow N e 1 (.slice (some ⟨g, 0, none⟩) n cap) n xs) (o : Nat) : w.frozen? ⟨g, o, none⟩ = false := by
  obtain ⟨cur, _, hg, _⟩ := own_in h
  exact frozen_of hg
theorem own_set (h : w.ownsRow N e 1 (.slice (some ⟨g, 0, none⟩) n cap) n xs) (i : Nat) (u : Value) : (w.setCell ⟨g, 0 + i, none⟩ u).ownsRow N e 1 (.slice (some ⟨g, 0, none⟩) n cap) n (xs.set i u) := by
  obtain ⟨cur, hb, hg, h1, h2, h3, h4⟩ := own_in h
  refine ⟨by rw [List.length_set]; exact h.1, Or.inr ⟨g, cap, cur.setIfInBounds (0 + i) u, rfl, hb, heap_set hg, h1, h2, by simp [h3], ?_⟩⟩
  rw [Array.toList_setIfInBounds, Nat.zero_add, ← h4, Nat.mul_one, ← List.take_set]
/-- The last one is cut off. -/
theorem own_pop (h : w.ownsRow N e 1 (.slice (some ⟨g, 0, none⟩) (n + 1) cap) (n + 1) xs) : w.ownsRow N e 1 (.slice (some ⟨g, 0, none⟩) n cap) n (xs.take n) := by
  obtain ⟨cur, hb, hg, h1, h2, h3, h4⟩ := own_in h
  refine ⟨by rw [List.length_take, h.1]; omega, Or.inr ⟨g, cap, cur, rfl, hb, hg, by omega, h2, by simp [h3], ?_⟩⟩
  rw [← h4, Nat.mul_one, List.take_take, Nat.min_eq_left (by omega)]
theorem own_same {w' : World} (h : w.ownsRow N e 1 v n xs) (hk : ∀ k, v.ownBlock = some k → w'.heap[k]? = w.heap[k]?) : w'.ownsRow N e 1 v n xs := by
  refine ⟨h.1, ?_⟩
  rcases h.2 with hn | ⟨g, cap, cur, rfl, hb, hg, rest⟩
  · exact Or.inl hn
  · exact Or.inr ⟨g, cap, cur, rfl, hb, (hk g rfl).trans hg, rest⟩
end

/-! ### What a call leaves alone -/
structure Chg (w w' : World) (may : Nat → Prop) : Prop where
  os : w'.os = w.os
  tape : w'.tape = w.tape
  output : w'.output = w.output
  size : w.heap.size ≤ w'.heap.size
  block : ∀ k, k < w.heap.size → ¬ may k → w'.heap[k]? = w.heap[k]?
section
variable {a b c : World} {m m' : Nat → Prop}
theorem Chg.trans (h : Chg a b m) (k : Chg b c m) : Chg a c m :=
  ⟨k.os.trans h.os, k.tape.trans h.tape, k.output.trans h.output, Nat.le_trans h.size k.size, fun i hi hn => (k.block i (Nat.lt_of_lt_of_le hi h.size) hn).trans (h.block i hi hn)⟩
theorem Chg.mono (h : Chg a b m) (hm : ∀ k, k < a.heap.size → m k → m' k) : Chg a b m' := ⟨h.os, h.tape, h.output, h.size, fun i hi hn => h.block i hi fun x => hn (hm i hi x)⟩
theorem Chg.of_below (h : Below a.heap.size a b) : Chg a b m := ⟨h.os, h.tape, h.output, h.size, fun i hi _ => h.block i hi⟩
theorem Chg.heap (h : Chg a b m) {k : Nat} (hk : ¬ m k) {x : Obj} (hx : a.heap[k]? = some x) : b.heap[k]? = some x := (h.block k (lt_of_heap hx) hk).trans hx
theorem Chg.set (w : World) (p : Addr) (v : Value) (hp : m p.block) : Chg w (w.setCell p v) m :=
  ⟨rfl, rfl, rfl, by rw [size_set]; exact Nat.le_refl _, fun k _ hn => by rw [Below.heap_setCell]; exact fun e => hn (by rw [e]; exact hp)⟩
theorem Chg.refl (w : World) : Chg w w m := ⟨rfl, rfl, rfl, Nat.le_refl _, fun _ _ _ => rfl⟩
theorem Chg.below (h : Chg a b m) {B : Nat} (hB : ∀ k, k < B → ¬ m k) (hs : B ≤ a.heap.size) : Below B a b := ⟨h.os, h.tape, h.output, h.size, fun i hi => h.block i (by omega) (hB i hi)⟩
end

/-! ### The queue -/
structure TI where
  due : Int
  start : Nat
  fire : Value
def pv (t : Nat) : Value := .pointer (some ⟨t, 0, none⟩)

/-- The clock C, its queue the slice v of the timers ts, each of which knows its place. -/
structure HQ (N : Nat) (inf : Nat → TI) (C : Nat) (now : Int) (st : Nat) (w : World) (v : Value) (ts : List Nat) : Prop where
  clk : w.heap[C]? = some (.cells #[.int .i64 now, v, .int .u64 (st : Int)] 30 (0, 0))
  own : w.ownsRow N 42 1 v ts.length (ts.map pv)
  tim : ∀ i t, ts[i]? = some t → TimerAt w t (inf t).due (inf t).start i (inf t).fire
  nd : ts.Nodup

section
variable {N : Nat} {inf : Nat → TI} {C : Nat} {now : Int} {st : Nat} {w w' : World} {v : Value} {ts : List Nat}
theorem HQ.below (h : HQ N inf C now st w v ts) (hb : Below w.heap.size w w') : HQ N inf C now st w' v ts := by
  refine ⟨below_heap hb (lt_of_heap h.clk) h.clk, ?_, fun i t ht => (h.tim i t ht).below hb, h.nd⟩
  refine own_same h.own fun k hk => hb.block k ?_
  rcases h.own.2 with ⟨rfl, _⟩ | ⟨g, cap, cur, rfl, _, hg, _⟩
  · cases hk
  · cases hk; exact lt_of_heap hg
theorem HQ.c1 (h : HQ N inf C now st w v ts) : w.cell? ⟨C, 0 + 1, none⟩ = some v := by rw [cell_of h.clk]; rfl
/-- The row is no timer and no clock. -/
theorem HQ.row_ne (h : HQ N inf C now st w v ts) {g : Nat} (hv : v.ownBlock = some g) : g ≠ C ∧ g ∉ ts ∧ N ≤ g ∧ g < w.heap.size := by
  rcases h.own.2 with ⟨rfl, _⟩ | ⟨g', cap, cur, rfl, hb, hg, _⟩
  · cases hv
  · cases hv
    refine ⟨fun e => ?_, fun hm => ?_, hb, lt_of_heap hg⟩
    · subst e
      have := h.clk
      rw [hg] at this
      cases this
    · obtain ⟨i, hi, e⟩ := List.getElem_of_mem hm
      have := h.tim i g' (by rw [List.getElem?_eq_getElem hi, e])
      unfold TimerAt at this
      rw [hg] at this
      cases this
theorem HQ.clk_ne (h : HQ N inf C now st w v ts) : C ∉ ts := by
  intro hm
  obtain ⟨i, hi, e⟩ := List.getElem_of_mem hm
  have := h.tim i C (by rw [List.getElem?_eq_getElem hi, e])
  unfold TimerAt at this
  rw [h.clk] at this
  cases this
end

/-! ### Methods through the pointer -/
theorem run_loadOne {P : Program} {t : TypeId} {a : Addr} {v : Value} {w : World} (ht : aggB P t = some false) (hc : w.cell? a = some v) : (loadVar t a).run P w = .ok v w := by
  simp only [loadVar, Sem.run_bind, run_isAgg ht, Result.andThen]
  simp [hc]
theorem szAll : 0 < Yba.prog.types.size + Made.depth := of_decide_eq_true (by kernel_rfl)
theorem nilchk (P : Program) (w : World) (ts : Array TypeId) (t : TypeId) (a : Addr) (x y : ByteArray) : (Builtin.ssaWrapNilChk_ ts t #[.pointer (some a), .string x, .string y]).run P w = .ok (.pointer (some a)) w := rfl
theorem pt75 : Yba.prog.underlying 75 = some (.pointer 28) := by kernel_rfl
theorem method_val {P : Program} {T e : TypeId} {name : String} {f : Nat} {i : TypeInfo} {m : Method} {a : Addr} {v : Value} {w : World} {k : Nat} (hi : P.info? T = some i) (hm : i.methods.find? (·.name == name) = some m) (hf : m.func = some (f, false)) (hp : m.path = #[])
    (hu : P.underlying T = some (.pointer e)) (he : aggB P e = some false) (hc : w.cell? a = some v) : (method (k + 1) T (.pointer (some a)) name).run P w = .ok (f, v) w := by
  unfold method
  simp only [typeInfo, Sem.run_bind, run_program, Result.andThen, hi, Sem.run_pure, hm, hp, hf, follow]
  simp [receiverAt, run_underlying hu, Place.get, strVal, nilchk, asAddr, run_loadOne he hc]
theorem meth_look (name : String) (f : Nat) (h : ((Yba.prog.info? 75).bind fun i => i.methods.find? (·.name == name)).map (fun m => (m.func, m.path.toList.length)) = some (some (f, false), 0)) (C : Nat) (w : World) {v : Value} (hc : w.cell? ⟨C, 0 + 1, none⟩ = some v) :
    (method (Yba.prog.types.size + Made.depth) 75 (.pointer (some ⟨C, 0 + 1, none⟩)) name).run Yba.prog w = .ok (f, v) w := by
  cases hi : Yba.prog.info? 75 with
  | none => rw [hi] at h; cases h
  | some i =>
    rw [hi] at h
    simp only [Option.bind_some] at h
    cases hm : i.methods.find? (·.name == name) with
    | none => rw [hm] at h; cases h
    | some m =>
      rw [hm] at h
      simp only [Option.map_some, Option.some.injEq, Prod.mk.injEq] at h
      have hp : m.path = #[] := by
        apply Array.ext'
        exact List.length_eq_zero_iff.1 h.2
      have hn : Yba.prog.types.size + Made.depth = (Yba.prog.types.size + Made.depth - 1) + 1 := by
        have := szAll
        omega
      rw [hn]
      exact method_val hi hm h.1 hp pt75 na28 hc
theorem m_len (C : Nat) (w : World) {v : Value} (hc : w.cell? ⟨C, 0 + 1, none⟩ = some v) : (method (Yba.prog.types.size + Made.depth) 75 (.pointer (some ⟨C, 0 + 1, none⟩)) "Len").run Yba.prog w = .ok (63, v) w := meth_look "Len" 63 (by kernel_rfl) C w hc
theorem m_less (C : Nat) (w : World) {v : Value} (hc : w.cell? ⟨C, 0 + 1, none⟩ = some v) : (method (Yba.prog.types.size + Made.depth) 75 (.pointer (some ⟨C, 0 + 1, none⟩)) "Less").run Yba.prog w = .ok (64, v) w := meth_look "Less" 64 (by kernel_rfl) C w hc
theorem m_swap (C : Nat) (w : World) {v : Value} (hc : w.cell? ⟨C, 0 + 1, none⟩ = some v) : (method (Yba.prog.types.size + Made.depth) 75 (.pointer (some ⟨C, 0 + 1, none⟩)) "Swap").run Yba.prog w = .ok (65, v) w := meth_look "Swap" 65 (by kernel_rfl) C w hc
theorem m_push (C : Nat) (w : World) : (method (Yba.prog.types.size + Made.depth) 75 (.pointer (some ⟨C, 0 + 1, none⟩)) "Push").run Yba.prog w = .ok (72, .pointer (some ⟨C, 0 + 1, none⟩)) w := by kernel_rfl
theorem m_pop (C : Nat) (w : World) : (method (Yba.prog.types.size + Made.depth) 75 (.pointer (some ⟨C, 0 + 1, none⟩)) "Pop").run Yba.prog w = .ok (71, .pointer (some ⟨C, 0 + 1, none⟩)) w := by kernel_rfl

theorem len_any (p : Option Addr) (m c : Nat) (w : World) : Calls Yba.prog 63 #[.slice p m c] w fun e w' => e = .returned (.int .i64 (m : Int)) ∧ w' = w := by
  refine calls_of Yba.func63 rfl Yba.ntmps63 rfl ?_
  refine WC.seq (WC.region ?_)
  repeat (first | (refine WL.val ?_ ?_ (Runs.move rfl) ?_; rfl; rfl) | (refine WL.val ?_ ?_ (Runs.assign rfl) ?_; rfl; rfl) | (refine WL.val ?_ ?_ (Runs.extract rfl rfl) ?_; rfl; rfl) | (refine WL.val ?_ ?_ (Runs.nilCheck rfl) ?_; rfl; rfl) | (refine WL.val ?_ ?_ (Runs.pickT rfl rfl) ?_; rfl; rfl) | (refine WL.val ?_ ?_ (Runs.pickF rfl rfl) ?_; rfl; rfl) | (refine WL.val ?_ ?_ (Runs.len rfl sl22) ?_; rfl; rfl) | (refine WL.val ?_ ?_ (Runs.len rfl sl23) ?_; rfl; rfl) | (refine WL.val ?_ ?_ (Runs.len rfl sl27) ?_; rfl; rfl) | (refine WL.val ?_ ?_ (Runs.len rfl sl28) ?_; rfl; rfl) | (refine WL.val ?_ ?_ (Runs.len rfl sl39) ?_; rfl; rfl) | (refine WL.val ?_ ?_ (Runs.len rfl sl64) ?_; rfl; rfl) | (refine WL.val ?_ ?_ (Runs.len rfl sl68) ?_; rfl; rfl) | (refine WL.val ?_ ?_ (Runs.len rfl sl86) ?_; rfl; rfl) | (refine WL.val ?_ ?_ (Runs.len rfl sl113) ?_; rfl; rfl) | (refine WL.pass ?_ ?_ ?_; rfl; rfl))
  refine WL.nil ?_
  repeat (first | refine AtExit.thenRet ?_ | refine AtExit.thenExit ?_ | refine AtExit.blockRet ?_ | refine AtExit.blockEnd ?_ | refine AtExit.blockExit ?_ | (refine AtExit.blockPast ?_ ?_; rfl))
  refine AtExit.go ?_
  refine WC.seq (WC.region ?_)
  repeat (first | (refine WL.val ?_ ?_ (Runs.move rfl) ?_; rfl; rfl) | (refine WL.val ?_ ?_ (Runs.assign rfl) ?_; rfl; rfl) | (refine WL.val ?_ ?_ (Runs.extract rfl rfl) ?_; rfl; rfl) | (refine WL.val ?_ ?_ (Runs.nilCheck rfl) ?_; rfl; rfl) | (refine WL.val ?_ ?_ (Runs.pickT rfl rfl) ?_; rfl; rfl) | (refine WL.val ?_ ?_ (Runs.pickF rfl rfl) ?_; rfl; rfl) | (refine WL.val ?_ ?_ (Runs.len rfl sl22) ?_; rfl; rfl) | (refine WL.val ?_ ?_ (Runs.len rfl sl23) ?_; rfl; rfl) | (refine WL.val ?_ ?_ (Runs.len rfl sl27) ?_; rfl; rfl) | (refine WL.val ?_ ?_ (Runs.len rfl sl28) ?_; rfl; rfl) | (refine WL.val ?_ ?_ (Runs.len rfl sl39) ?_; rfl; rfl) | (refine WL.val ?_ ?_ (Runs.len rfl sl64) ?_; rfl; rfl) | (refine WL.val ?_ ?_ (Runs.len rfl sl68) ?_; rfl; rfl) | (refine WL.val ?_ ?_ (Runs.len rfl sl86) ?_; rfl; rfl) | (refine WL.val ?_ ?_ (Runs.len rfl sl113) ?_; rfl; rfl) | (refine WL.pass ?_ ?_ ?_; rfl; rfl))
  refine WL.nil ?_
  repeat (first | refine AtExit.thenRet ?_ | refine AtExit.thenExit ?_ | refine AtExit.blockRet ?_ | refine AtExit.blockEnd ?_ | refine AtExit.blockExit ?_ | (refine AtExit.blockPast ?_ ?_; rfl))
  refine AtExit.go ?_
  refine WC.ret ?_
  repeat (first | refine AtExit.thenRet ?_ | refine AtExit.thenExit ?_ | refine AtExit.blockRet ?_ | refine AtExit.blockEnd ?_ | refine AtExit.blockExit ?_ | (refine AtExit.blockPast ?_ ?_; rfl))
  exact post1 rfl rfl ⟨rfl, rfl⟩

section
variable {N : Nat} {inf : Nat → TI} {C : Nat} {now : Int} {st : Nat} {w : World} {g n cap : Nat} {ts : List Nat}
theorem get_pv {i t : Nat} (h : ts[i]? = some t) : (ts.map pv)[i]? = some (pv t) := by rw [List.getElem?_map, h]; rfl

theorem less_any (h : HQ N inf C now st w (.slice (some ⟨g, 0, none⟩) ts.length cap) ts) (i j : Nat) (hi : i < ts.length) (hj : j < ts.length) :
    Calls Yba.prog 64 #[.slice (some ⟨g, 0, none⟩) ts.length cap, .int .i64 (i : Int), .int .i64 (j : Int)] w fun e w' => (∃ b, e = .returned (.bool b)) ∧ Below w.heap.size w w' := by
  obtain ⟨ti, hti⟩ : ∃ t, ts[i]? = some t := ⟨_, List.getElem?_eq_getElem hi⟩
  obtain ⟨tj, htj⟩ : ∃ t, ts[j]? = some t := ⟨_, List.getElem?_eq_getElem hj⟩
  refine calls_of Yba.func64 rfl Yba.ntmps64 rfl ?_
  refine WC.seq (WC.region ?_)
  repeat (first | (refine WL.val ?_ ?_ (Runs.move rfl) ?_; rfl; rfl) | (refine WL.val ?_ ?_ (Runs.assign rfl) ?_; rfl; rfl) | (refine WL.val ?_ ?_ (Runs.extract rfl rfl) ?_; rfl; rfl) | (refine WL.val ?_ ?_ (Runs.nilCheck rfl) ?_; rfl; rfl) | (refine WL.val ?_ ?_ (Runs.pickT rfl rfl) ?_; rfl; rfl) | (refine WL.val ?_ ?_ (Runs.pickF rfl rfl) ?_; rfl; rfl) | (refine WL.val ?_ ?_ (Runs.len rfl sl22) ?_; rfl; rfl) | (refine WL.val ?_ ?_ (Runs.len rfl sl23) ?_; rfl; rfl) | (refine WL.val ?_ ?_ (Runs.len rfl sl27) ?_; rfl; rfl) | (refine WL.val ?_ ?_ (Runs.len rfl sl28) ?_; rfl; rfl) | (refine WL.val ?_ ?_ (Runs.len rfl sl39) ?_; rfl; rfl) | (refine WL.val ?_ ?_ (Runs.len rfl sl64) ?_; rfl; rfl) | (refine WL.val ?_ ?_ (Runs.len rfl sl68) ?_; rfl; rfl) | (refine WL.val ?_ ?_ (Runs.len rfl sl86) ?_; rfl; rfl) | (refine WL.val ?_ ?_ (Runs.len rfl sl113) ?_; rfl; rfl) | (refine WL.pass ?_ ?_ ?_; rfl; rfl))
  refine WL.nil ?_
  repeat (first | refine AtExit.thenRet ?_ | refine AtExit.thenExit ?_ | refine AtExit.blockRet ?_ | refine AtExit.blockEnd ?_ | refine AtExit.blockExit ?_ | (refine AtExit.blockPast ?_ ?_; rfl))
  refine AtExit.go ?_
  have hq : ∀ wq, Below w.heap.size w wq → HQ N inf C now st wq (.slice (some ⟨g, 0, none⟩) ts.length cap) ts := fun wq hb => h.below hb
  refine WC.seq (WC.quiet (fun wq => Below w.heap.size w wq) mixed (by kernel_rfl) (below_drawn _ _ _) ?_)
  repeat (first | (refine QL.val ?_ ?_ (fun wq hC => Runs.move rfl) ?_; rfl; rfl) | (refine QL.val ?_ ?_ (fun wq hC => Runs.assign rfl) ?_; rfl; rfl) | (refine QL.val ?_ ?_ (fun wq hC => Runs.extract rfl rfl) ?_; rfl; rfl) | (refine QL.val ?_ ?_ (fun wq hC => Runs.nilCheck rfl) ?_; rfl; rfl) | (refine QL.val ?_ ?_ (fun wq hC => Runs.pickT rfl rfl) ?_; rfl; rfl) | (refine QL.val ?_ ?_ (fun wq hC => Runs.pickF rfl rfl) ?_; rfl; rfl) | (refine QL.val ?_ ?_ (fun wq hC => Runs.len rfl sl22) ?_; rfl; rfl) | (refine QL.val ?_ ?_ (fun wq hC => Runs.len rfl sl23) ?_; rfl; rfl) | (refine QL.val ?_ ?_ (fun wq hC => Runs.len rfl sl27) ?_; rfl; rfl) | (refine QL.val ?_ ?_ (fun wq hC => Runs.len rfl sl28) ?_; rfl; rfl) | (refine QL.val ?_ ?_ (fun wq hC => Runs.len rfl sl39) ?_; rfl; rfl) | (refine QL.val ?_ ?_ (fun wq hC => Runs.len rfl sl64) ?_; rfl; rfl) | (refine QL.val ?_ ?_ (fun wq hC => Runs.len rfl sl68) ?_; rfl; rfl) | (refine QL.val ?_ ?_ (fun wq hC => Runs.len rfl sl86) ?_; rfl; rfl) | (refine QL.val ?_ ?_ (fun wq hC => Runs.len rfl sl113) ?_; rfl; rfl) | (refine QL.pass ?_ ?_ ?_; rfl; rfl))
  refine QL.val rfl rfl (fun wq hC => Runs.idx1 rfl rfl Yba.underlying28 sz42 rfl hi) ?_
  refine QL.val rfl rfl (fun wq hC => Runs.load rfl na42 (own_cell (hq wq hC).own (get_pv hti))) ?_
  repeat (first | (refine QL.val ?_ ?_ (fun wq hC => Runs.move rfl) ?_; rfl; rfl) | (refine QL.val ?_ ?_ (fun wq hC => Runs.assign rfl) ?_; rfl; rfl) | (refine QL.val ?_ ?_ (fun wq hC => Runs.extract rfl rfl) ?_; rfl; rfl) | (refine QL.val ?_ ?_ (fun wq hC => Runs.nilCheck rfl) ?_; rfl; rfl) | (refine QL.val ?_ ?_ (fun wq hC => Runs.pickT rfl rfl) ?_; rfl; rfl) | (refine QL.val ?_ ?_ (fun wq hC => Runs.pickF rfl rfl) ?_; rfl; rfl) | (refine QL.val ?_ ?_ (fun wq hC => Runs.len rfl sl22) ?_; rfl; rfl) | (refine QL.val ?_ ?_ (fun wq hC => Runs.len rfl sl23) ?_; rfl; rfl) | (refine QL.val ?_ ?_ (fun wq hC => Runs.len rfl sl27) ?_; rfl; rfl) | (refine QL.val ?_ ?_ (fun wq hC => Runs.len rfl sl28) ?_; rfl; rfl) | (refine QL.val ?_ ?_ (fun wq hC => Runs.len rfl sl39) ?_; rfl; rfl) | (refine QL.val ?_ ?_ (fun wq hC => Runs.len rfl sl64) ?_; rfl; rfl) | (refine QL.val ?_ ?_ (fun wq hC => Runs.len rfl sl68) ?_; rfl; rfl) | (refine QL.val ?_ ?_ (fun wq hC => Runs.len rfl sl86) ?_; rfl; rfl) | (refine QL.val ?_ ?_ (fun wq hC => Runs.len rfl sl113) ?_; rfl; rfl) | (refine QL.pass ?_ ?_ ?_; rfl; rfl))
  refine QL.val rfl rfl (fun wq hC => Runs.idx1 rfl rfl Yba.underlying28 sz42 rfl hj) ?_
  refine QL.val rfl rfl (fun wq hC => Runs.load rfl na42 (own_cell (hq wq hC).own (get_pv htj))) ?_
  refine QL.call rfl rfl (fun wq hC => RunsC.call rfl en17) (fun wq hC => (fire_any ti tj _ _ _ _ _ _ _ _ wq ((hq wq hC).tim i ti hti) ((hq wq hC).tim j tj htj)).mono fun e w' h => ⟨h.1, Below.up hC h.2⟩) ?_
  refine QL.val rfl rfl (fun wq hC => Runs.lss rfl rfl rfl) ?_
  repeat (first | (refine QL.val ?_ ?_ (fun wq hC => Runs.move rfl) ?_; rfl; rfl) | (refine QL.val ?_ ?_ (fun wq hC => Runs.assign rfl) ?_; rfl; rfl) | (refine QL.val ?_ ?_ (fun wq hC => Runs.extract rfl rfl) ?_; rfl; rfl) | (refine QL.val ?_ ?_ (fun wq hC => Runs.nilCheck rfl) ?_; rfl; rfl) | (refine QL.val ?_ ?_ (fun wq hC => Runs.pickT rfl rfl) ?_; rfl; rfl) | (refine QL.val ?_ ?_ (fun wq hC => Runs.pickF rfl rfl) ?_; rfl; rfl) | (refine QL.val ?_ ?_ (fun wq hC => Runs.len rfl sl22) ?_; rfl; rfl) | (refine QL.val ?_ ?_ (fun wq hC => Runs.len rfl sl23) ?_; rfl; rfl) | (refine QL.val ?_ ?_ (fun wq hC => Runs.len rfl sl27) ?_; rfl; rfl) | (refine QL.val ?_ ?_ (fun wq hC => Runs.len rfl sl28) ?_; rfl; rfl) | (refine QL.val ?_ ?_ (fun wq hC => Runs.len rfl sl39) ?_; rfl; rfl) | (refine QL.val ?_ ?_ (fun wq hC => Runs.len rfl sl64) ?_; rfl; rfl) | (refine QL.val ?_ ?_ (fun wq hC => Runs.len rfl sl68) ?_; rfl; rfl) | (refine QL.val ?_ ?_ (fun wq hC => Runs.len rfl sl86) ?_; rfl; rfl) | (refine QL.val ?_ ?_ (fun wq hC => Runs.len rfl sl113) ?_; rfl; rfl) | (refine QL.pass ?_ ?_ ?_; rfl; rfl))
  refine QL.nil fun wq hC => ?_
  repeat (first | refine AtExit.thenRet ?_ | refine AtExit.thenExit ?_ | refine AtExit.blockRet ?_ | refine AtExit.blockEnd ?_ | refine AtExit.blockExit ?_ | (refine AtExit.blockPast ?_ ?_; rfl))
  refine AtExit.go ?_
  refine WC.ret ?_
  repeat (first | refine AtExit.thenRet ?_ | refine AtExit.thenExit ?_ | refine AtExit.blockRet ?_ | refine AtExit.blockEnd ?_ | refine AtExit.blockExit ?_ | (refine AtExit.blockPast ?_ ?_; rfl))
  exact post1 rfl rfl ⟨⟨_, rfl⟩, hC⟩

theorem get_swap {l : List Nat} {i j x y : Nat} (hi : l[i]? = some x) (hj : l[j]? = some y) (k : Nat) : ((l.set i y).set j x)[k]? = if k = j then some x else if k = i then some y else l[k]? := by
  have h1 : i < l.length := (List.getElem?_eq_some_iff.1 hi).1
  have h2 : j < l.length := (List.getElem?_eq_some_iff.1 hj).1
  rw [List.getElem?_set, List.length_set]
  by_cases hk : k = j
  · rw [if_pos hk.symm, if_pos h2, if_pos hk]
  · rw [if_neg (fun e => hk e.symm), if_neg hk, List.getElem?_set]
    by_cases hk' : k = i
    · rw [if_pos hk'.symm, if_pos h1, if_pos hk']
    · rw [if_neg (fun e => hk' e.symm), if_neg hk']

theorem swap_perm {l : List Nat} {i j x y : Nat} (hij : i < j) (hi : l[i]? = some x) (hj : l[j]? = some y) : ((l.set i y).set j x).Perm l := by
  have h1 : i < l.length := (List.getElem?_eq_some_iff.1 hi).1
  have h2 : j < l.length := (List.getElem?_eq_some_iff.1 hj).1
  obtain ⟨P, M, S, rfl, hP, hM⟩ : ∃ P M S, l = P ++ x :: M ++ y :: S ∧ i = P.length ∧ j = P.length + 1 + M.length := by
    refine ⟨l.take i, (l.drop (i + 1)).take (j - i - 1), l.drop (j + 1), ?_, by simp; omega, by simp; omega⟩
    have e1 : l = l.take i ++ x :: l.drop (i + 1) := by
      rw [← (List.getElem?_eq_some_iff.1 hi).2, ← List.drop_eq_getElem_cons h1, List.take_append_drop]
    have e2 : l.drop (i + 1) = (l.drop (i + 1)).take (j - i - 1) ++ y :: l.drop (j + 1) := by
      have : (l.drop (i + 1)).drop (j - i - 1) = y :: l.drop (j + 1) := by
        rw [List.drop_drop, show i + 1 + (j - i - 1) = j from by omega, List.drop_eq_getElem_cons h2, (List.getElem?_eq_some_iff.1 hj).2]
      rw [← this, List.take_append_drop]
    conv => lhs; rw [e1, e2]
    simp
  subst hP hM
  have e3 : (((P ++ x :: M ++ y :: S).set P.length y).set (P.length + 1 + M.length) x) = P ++ y :: M ++ x :: S := by
    have e1 : (P ++ x :: M ++ y :: S).set P.length y = P ++ y :: (M ++ y :: S) := by
      rw [List.append_assoc, List.cons_append, List.set_append_right _ _ (Nat.le_refl _), Nat.sub_self]; rfl
    rw [e1, List.set_append_right _ _ (by omega), show P.length + 1 + M.length - P.length = M.length + 1 from by omega, List.set_cons_succ, List.set_append_right _ _ (Nat.le_refl _), Nat.sub_self]
    simp
  rw [e3, List.append_assoc, List.append_assoc]
  refine List.Perm.append_left P ?_
  show (y :: (M ++ x :: S)).Perm (x :: (M ++ y :: S))
  refine ((List.perm_middle (a := x) (l₁ := M) (l₂ := S)).cons y).trans ?_
  refine (List.Perm.swap x y (M ++ S)).trans ?_
  exact (List.perm_middle (a := y) (l₁ := M) (l₂ := S)).symm.cons x
theorem swap_perm' {l : List Nat} {i j x y : Nat} (hij : i ≠ j) (hi : l[i]? = some x) (hj : l[j]? = some y) : ((l.set i y).set j x).Perm l := by
  rcases Nat.lt_or_ge i j with h | h
  · exact swap_perm h hi hj
  · rw [List.set_comm y x hij]
    exact swap_perm (by omega) hj hi

theorem swap_any (h : HQ N inf C now st w (.slice (some ⟨g, 0, none⟩) ts.length cap) ts) (i j ti tj : Nat) (hti : ts[i]? = some ti) (htj : ts[j]? = some tj) (hij : i ≠ j) :
    Calls Yba.prog 65 #[.slice (some ⟨g, 0, none⟩) ts.length cap, .int .i64 (i : Int), .int .i64 (j : Int)] w fun e w' => e = .returned (.tuple #[]) ∧ HQ N inf C now st w' (.slice (some ⟨g, 0, none⟩) ts.length cap) ((ts.set i tj).set j ti) ∧ Chg w w' (fun k => k = g ∨ k ∈ ts) := by
  have hi : i < ts.length := (List.getElem?_eq_some_iff.1 hti).1
  have hj : j < ts.length := (List.getElem?_eq_some_iff.1 htj).1
  obtain ⟨hgC, hgt, _, _⟩ := h.row_ne rfl
  have hmi : ti ∈ ts := List.mem_of_getElem? hti
  have hmj : tj ∈ ts := List.mem_of_getElem? htj
  have hne : ti ≠ tj := fun e => by
    subst e
    exact hij ((List.getElem?_inj hi h.nd).1 (hti.trans htj.symm))
  refine calls_of Yba.func65 rfl Yba.ntmps65 rfl ?_
  have hb0 : Below w.heap.size w w.drew := below_drawn _ _ _
  have h0 := h.below hb0
  have o1 := own_set h0.own i (pv tj)
  have gj1 : ((ts.map pv).set i (pv tj))[j]? = some (pv tj) := by rw [List.getElem?_set_ne hij]; exact get_pv htj
  have o2 := own_set o1 j (pv ti)
  have c2 : Chg w ((w.drew.setCell ⟨g, 0 + i, none⟩ (pv tj)).setCell ⟨g, 0 + j, none⟩ (pv ti)) (fun k => k = g ∨ k ∈ ts) := ((Chg.of_below hb0).trans (Chg.set _ _ _ (Or.inl rfl))).trans (Chg.set _ _ _ (Or.inl rfl))
  have k2 : ∀ k, k ≠ g → ((w.drew.setCell ⟨g, 0 + i, none⟩ (pv tj)).setCell ⟨g, 0 + j, none⟩ (pv ti)).heap[k]? = w.heap[k]? := fun k hk => by
    rw [Below.heap_setCell _ _ _ _ hk, Below.heap_setCell _ _ _ _ hk]; rfl
  rw [← List.map_set, ← List.map_set] at o2
  refine WC.seq (WC.held (fun _ => True) mixed rfl ?_)
  refine HL.take 0 rfl (by kernel_rfl) (by kernel_rfl) (by kernel_rfl) (fun _ _ _ h => h) rfl rfl (fun _ _ => Runs.move rfl) trivial ?_
  refine HL.take 1 rfl (by kernel_rfl) (by kernel_rfl) (by kernel_rfl) (fun _ _ _ h => h) rfl rfl (fun _ _ => Runs.move rfl) trivial ?_
  refine HL.take 2 rfl (by kernel_rfl) (by kernel_rfl) (by kernel_rfl) (fun _ _ _ h => h) rfl rfl (fun _ _ => Runs.move rfl) trivial ?_
  refine HL.take 3 rfl (by kernel_rfl) (by kernel_rfl) (by kernel_rfl) (fun _ _ _ h => h) rfl rfl (fun _ _ => Runs.move rfl) trivial ?_
  refine HL.take 4 rfl (by kernel_rfl) (by kernel_rfl) (by kernel_rfl) (fun _ _ _ h => h) rfl rfl (fun _ _ => Runs.move rfl) trivial ?_
  refine HL.take 5 rfl (by kernel_rfl) (by kernel_rfl) (by kernel_rfl) (fun _ _ _ h => h) rfl rfl (fun _ _ => Runs.move rfl) trivial ?_
  refine HL.take 6 rfl (by kernel_rfl) (by kernel_rfl) (by kernel_rfl) (fun _ _ _ h => h) rfl rfl (fun _ _ => Runs.idx1 rfl rfl Yba.underlying28 sz42 rfl hj) trivial ?_
  refine HL.take 8 rfl (by kernel_rfl) (by kernel_rfl) (by kernel_rfl) (fun _ _ _ h => h) rfl rfl (fun _ _ => Runs.move rfl) trivial ?_
  refine HL.take 9 rfl (by kernel_rfl) (by kernel_rfl) (by kernel_rfl) (fun _ _ _ h => h) rfl rfl (fun _ _ => Runs.move rfl) trivial ?_
  refine HL.take 10 rfl (by kernel_rfl) (by kernel_rfl) (by kernel_rfl) (fun _ _ _ h => h) rfl rfl (fun _ _ => Runs.idx1 rfl rfl Yba.underlying28 sz42 rfl hi) trivial ?_
  refine HL.both (i := 7) (i' := 11) rfl rfl (by kernel_rfl) (by kernel_rfl) ⟨by kernel_rfl, rfl⟩ rfl rfl rfl ⟨rfl, rfl, rfl, rfl⟩ (Runs.load rfl na42 (own_cell h0.own (get_pv htj))) (Runs.load rfl na42 (own_cell h0.own (get_pv hti))) (fun _ => Runs.load rfl na42 (own_cell h0.own (get_pv htj))) (fun _ => Runs.load rfl na42 (own_cell h0.own (get_pv hti))) trivial ?_
  refine HL.take 12 rfl (by kernel_rfl) (by kernel_rfl) (by kernel_rfl) (fun _ _ _ h => h) rfl rfl (fun _ _ => Runs.idx1 rfl rfl Yba.underlying28 sz42 rfl hi) trivial ?_
  refine HL.all1 (i := 13) (by kernel_rfl) ?_
  refine HO.skip rfl rfl (RunsS.store rfl rfl rfl sz42 (own_cell h0.own (get_pv hti)) (own_frozen h0.own _)) trivial ?_
  refine HL.take 14 rfl (by kernel_rfl) (by kernel_rfl) (by kernel_rfl) (fun _ _ _ h => h) rfl rfl (fun _ _ => Runs.idx1 rfl rfl Yba.underlying28 sz42 rfl hj) trivial ?_
  refine HL.all1 (i := 15) (by kernel_rfl) ?_
  refine HO.skip rfl rfl (RunsS.store rfl rfl rfl sz42 (own_cell o1 gj1) (own_frozen o1 _)) trivial ?_
  refine HL.done (by kernel_rfl) ?_
  repeat (first | refine AtExit.thenRet ?_ | refine AtExit.thenExit ?_ | refine AtExit.blockRet ?_ | refine AtExit.blockEnd ?_ | refine AtExit.blockExit ?_ | (refine AtExit.blockPast ?_ ?_; rfl))
  refine AtExit.go ?_
  change WC _ _ _ _ _ ((w.drew.setCell ⟨g, 0 + i, none⟩ (pv tj)).setCell ⟨g, 0 + j, none⟩ (pv ti))
  generalize (w.drew.setCell ⟨g, 0 + i, none⟩ (pv tj)).setCell ⟨g, 0 + j, none⟩ (pv ti) = w2 at o2 c2 k2 ⊢
  have hs : ∀ k, ((ts.set i tj).set j ti)[k]? = if k = j then some ti else if k = i then some tj else ts[k]? := get_swap hti htj
  have gi2 : ((ts.set i tj).set j ti)[i]? = some tj := by rw [hs, if_neg hij, if_pos rfl]
  have gj2 : ((ts.set i tj).set j ti)[j]? = some ti := by rw [hs, if_pos rfl]
  have hb2 : Below w2.heap.size w2 w2.drew := below_drawn _ _ _
  have o3 : w2.drew.ownsRow N 42 1 (.slice (some ⟨g, 0, none⟩) ts.length cap) ts.length (((ts.set i tj).set j ti).map pv) := own_same o2 fun k _ => rfl
  have Tj : TimerAt w2.drew tj (inf tj).due (inf tj).start j (inf tj).fire := (k2 tj (fun e => hgt (e ▸ hmj))).trans (h.tim j tj htj)
  have Ti : TimerAt w2.drew ti (inf ti).due (inf ti).start i (inf ti).fire := (k2 ti (fun e => hgt (e ▸ hmi))).trans (h.tim i ti hti)
  have Tj4 := heap_set (o := 0 + 2) (v := .int .i64 (i : Int)) Tj
  have Ti4 : TimerAt (w2.drew.setCell ⟨tj, 0 + 2, none⟩ (.int .i64 (i : Int))) ti (inf ti).due (inf ti).start i (inf ti).fire := heap_set_other Ti hne
  have Ti5 := heap_set (o := 0 + 2) (v := .int .i64 (j : Int)) Ti4
  have Tj5 := heap_set_other (a := ⟨ti, 0 + 2, none⟩) (v := .int .i64 (j : Int)) Tj4 (fun e => hne e.symm)
  have k5 : ∀ k, k ≠ ti → k ≠ tj → ((w2.drew.setCell ⟨tj, 0 + 2, none⟩ (.int .i64 (i : Int))).setCell ⟨ti, 0 + 2, none⟩ (.int .i64 (j : Int))).heap[k]? = w2.heap[k]? := fun k h1 h2 => by
    rw [Below.heap_setCell _ _ _ _ h1, Below.heap_setCell _ _ _ _ h2]; rfl
  have c5 : Chg w ((w2.drew.setCell ⟨tj, 0 + 2, none⟩ (.int .i64 (i : Int))).setCell ⟨ti, 0 + 2, none⟩ (.int .i64 (j : Int))) (fun k => k = g ∨ k ∈ ts) :=
    ((c2.trans (Chg.of_below hb2)).trans (Chg.set _ _ _ (Or.inr hmj))).trans (Chg.set _ _ _ (Or.inr hmi))
  have g3 : ∀ wq, Chg w2.drew wq (fun k => k ∈ ts) → wq.ownsRow N 42 1 (.slice (some ⟨g, 0, none⟩) ts.length cap) ts.length (((ts.set i tj).set j ti).map pv) := fun wq hc => own_same o3 fun k hk => by
    cases hk
    obtain ⟨cur, _, hg, _⟩ := own_in o3
    exact hc.block g (lt_of_heap hg) hgt
  have s0 : Chg w2.drew w2.drew (fun k => k ∈ ts) := Chg.refl _
  refine WC.held (fun wq => Chg w2.drew wq (fun k => k ∈ ts)) mixed rfl ?_
  refine HL.take 0 rfl (by kernel_rfl) (by kernel_rfl) (by kernel_rfl) (fun _ _ _ h => h) rfl rfl (fun wq hC => Runs.move rfl) (by assumption) ?_
  refine HL.take 1 rfl (by kernel_rfl) (by kernel_rfl) (by kernel_rfl) (fun _ _ _ h => h) rfl rfl (fun wq hC => Runs.move rfl) (by assumption) ?_
  refine HL.take 2 rfl (by kernel_rfl) (by kernel_rfl) (by kernel_rfl) (fun _ _ _ h => h) rfl rfl (fun wq hC => Runs.idx1 rfl rfl Yba.underlying28 sz42 rfl hi) (by assumption) ?_
  refine HL.take 3 rfl (by kernel_rfl) (by kernel_rfl) (by kernel_rfl) (fun _ _ _ h => h) rfl rfl (fun wq hC => Runs.load rfl na42 (own_cell (g3 wq hC) (get_pv gi2))) (by assumption) ?_
  refine HL.take 4 rfl (by kernel_rfl) (by kernel_rfl) (by kernel_rfl) (fun _ _ _ h => h) rfl rfl (fun wq hC => Runs.move rfl) (by assumption) ?_
  refine HL.take 5 rfl (by kernel_rfl) (by kernel_rfl) (by kernel_rfl) (fun _ _ _ h => h) rfl rfl (fun wq hC => Runs.move rfl) (by assumption) ?_
  refine HL.take 6 rfl (by kernel_rfl) (by kernel_rfl) (by kernel_rfl) (fun _ _ _ h => h) rfl rfl (fun wq hC => Runs.idx1 rfl rfl Yba.underlying28 sz42 rfl hj) (by assumption) ?_
  refine HL.take 7 rfl (by kernel_rfl) (by kernel_rfl) (by kernel_rfl) (fun _ _ _ h => h) rfl rfl (fun wq hC => Runs.load rfl na42 (own_cell (g3 wq hC) (get_pv gj2))) (by assumption) ?_
  refine HL.take 8 rfl (by kernel_rfl) (by kernel_rfl) (by kernel_rfl) (fun _ _ _ h => h) rfl rfl (fun wq hC => Runs.move rfl) (by assumption) ?_
  refine HL.take 9 rfl (by kernel_rfl) (by kernel_rfl) (by kernel_rfl) (fun _ _ _ h => h) rfl rfl (fun wq hC => Runs.move rfl) (by assumption) ?_
  refine HL.take 10 rfl (by kernel_rfl) (by kernel_rfl) (by kernel_rfl) (fun _ _ _ h => h) rfl rfl (fun wq hC => Runs.nilCheck rfl) (by assumption) ?_
  refine HL.take 11 rfl (by kernel_rfl) (by kernel_rfl) (by kernel_rfl) (fun _ _ _ h => h) rfl rfl (fun wq hC => Runs.fld rfl fl73_2) (by assumption) ?_
  refine HL.all1 (i := 12) (by kernel_rfl) ?_
  have s1 := s0.trans (Chg.set w2.drew ⟨tj, 0 + 2, none⟩ (.int .i64 (i : Int)) hmj)
  refine HO.skip rfl rfl (RunsS.store rfl rfl rfl sz3 (u := .int .i64 (j : Int)) (by rw [cell_of Tj]; rfl) (frozen_of Tj)) s1 ?_
  refine HL.take 13 rfl (by kernel_rfl) (by kernel_rfl) (by kernel_rfl) (fun _ _ _ h => h) rfl rfl (fun wq hC => Runs.nilCheck rfl) (by assumption) ?_
  refine HL.take 14 rfl (by kernel_rfl) (by kernel_rfl) (by kernel_rfl) (fun _ _ _ h => h) rfl rfl (fun wq hC => Runs.fld rfl fl73_2) (by assumption) ?_
  refine HL.all1 (i := 15) (by kernel_rfl) ?_
  have s2 := s1.trans (Chg.set _ ⟨ti, 0 + 2, none⟩ (.int .i64 (j : Int)) hmi)
  refine HO.skip rfl rfl (RunsS.store rfl rfl rfl sz3 (u := .int .i64 (i : Int)) (by rw [cell_of Ti4]; rfl) (frozen_of Ti4)) s2 ?_
  refine HL.done (by kernel_rfl) ?_
  have hlen : ((ts.set i tj).set j ti).length = ts.length := by rw [List.length_set, List.length_set]
  have hperm := swap_perm' hij hti htj
  have hq : HQ N inf C now st ((w2.drew.setCell ⟨tj, 0 + 2, none⟩ (.int .i64 (i : Int))).setCell ⟨ti, 0 + 2, none⟩ (.int .i64 (j : Int))) (.slice (some ⟨g, 0, none⟩) ts.length cap) ((ts.set i tj).set j ti) := by
    have hCt : C ∉ ts := h.clk_ne
    refine ⟨?_, ?_, fun k t ht => ?_, (hperm.nodup_iff).2 h.nd⟩
    · rw [k5 C (fun e => hCt (e ▸ hmi)) (fun e => hCt (e ▸ hmj)), k2 C (fun e => hgC e.symm)]; exact h.clk
    · rw [hlen]
      refine own_same o2 fun k hk => ?_
      cases hk
      exact k5 g (fun e => hgt (e ▸ hmi)) (fun e => hgt (e ▸ hmj))
    · rw [hs] at ht
      by_cases hkj : k = j
      · rw [if_pos hkj] at ht
        cases ht
        rw [hkj]; exact Ti5
      · rw [if_neg hkj] at ht
        by_cases hki : k = i
        · rw [if_pos hki] at ht
          cases ht
          rw [hki]; exact Tj5
        · rw [if_neg hki] at ht
          have hm : t ∈ ts := List.mem_of_getElem? ht
          have hkl : k < ts.length := (List.getElem?_eq_some_iff.1 ht).1
          have n1 : t ≠ ti := fun e => hki ((List.getElem?_inj hkl h.nd).1 (ht.trans (by rw [hti, e])))
          have n2 : t ≠ tj := fun e => hkj ((List.getElem?_inj hkl h.nd).1 (ht.trans (by rw [htj, e])))
          exact (k5 t n1 n2).trans ((k2 t (fun e => hgt (e ▸ hm))).trans (h.tim k t ht))
  exact post0e rfl ⟨rfl, hq, c5⟩
end
end Go.Proofs.Ybulkgfdm
