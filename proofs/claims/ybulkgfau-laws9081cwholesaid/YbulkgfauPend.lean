/- pending, walked. -/
import Derived.Test.YbulkgfauSlice
namespace Go.Proofs.Ybulkgfau
open Go Go.Fr Go.RowKit Go.Lib

theorem owns_rw {w : World} {base : Nat} {v : Value} {l : List Rc} (h : w.ownsRow base 36 5 v l.length (flat l)) (hne : l ≠ []) : ∃ g cap, v = .slice (some ⟨g, 0, none⟩) l.length cap ∧ base ≤ g ∧ Rw w g l := by
  rcases h.2 with ⟨_, h0⟩ | ⟨g, cap, cur, hv, hb, hg, _, _, _, htake⟩
  · exact absurd (List.length_eq_zero_iff.1 h0) hne
  · refine ⟨g, cap, hv, hb, cur.toList.drop (l.length * 5), ?_⟩
    rw [hg, ← htake, List.take_append_drop]

/-- Which records are pending. -/
def keep (after : Int) (r : Rc) : Bool := r.ek.isSome && decide (after < r.day)

structure Pd (W0 w : World) (S : Nat) (after : Int) (v : Value) (l : List Rc) : Prop where
  below : Below S W0 w
  size : S + 2 ≤ w.heap.size
  tm : TimeAt w S (after % 1000000000) (after / 1000000000)
  var : w.heap[S + 1]? = some (.cells #[v] 27 (0, 0))
  own : w.ownsRow (S + 2) 36 5 v l.length (flat l)
  nil : l = [] → v = .slice none 0 0

theorem owns_below {w w' : World} {base : Nat} {v : Value} {l : List Rc} (h : w.ownsRow base 36 5 v l.length (flat l)) (hb : Below w.heap.size w w') : w'.ownsRow base 36 5 v l.length (flat l) :=
  h.kept (grown_of_below hb none) (by cases hv : v.ownBlock <;> simp)

theorem Pd.up {W0 w w' : World} {S : Nat} {after : Int} {v : Value} {l : List Rc} (h : Pd W0 w S after v l) (hb : Below w.heap.size w w') : Pd W0 w' S after v l :=
  ⟨h.below.trans (hb.mono (by have := h.size; omega)), Nat.le_trans h.size hb.size, below_heap hb (lt_of_heap h.tm) h.tm, below_heap hb (lt_of_heap h.var) h.var, owns_below h.own hb, h.nil⟩

/-- One more record appended, the variable written. -/
theorem Pd.add {W0 w : World} {S : Nat} {after : Int} {v : Value} {l : List Rc} (h : Pd W0 w S after v l) (r : Rc) (hl : l.length < 4096) :
    ∃ v' w', (Builtin.append_ #[27, 27] 27 #[v, .slice (some ⟨w.heap.size, 0, none⟩) 1 1]).run Yba.prog (w.alloc (.cells (enc r).toArray 36)) = .ok v' w' ∧ v'.oneCell' = true ∧ w'.cell? ⟨S + 1, 0, none⟩ = some v ∧ w'.frozen? ⟨S + 1, 0, none⟩ = false ∧
      Pd W0 (w'.setCell ⟨S + 1, 0, none⟩ v') S after v' (l ++ [r]) := by
  have hb := below_new w (.cells (enc r).toArray 36) (Nat.le_refl _)
  have h1 := h.up hb
  have hc := heap_new w (.cells (enc r).toArray 36)
  obtain ⟨i, hi, hz, hs, hby⟩ := info_of in36
  obtain ⟨v', w', hrun, hown, hgr, hnil⟩ := run_append_own (P := Yba.prog) (w.alloc (.cells (enc r).toArray 36)) (S + 2) 27 27 36 i _ 5 40 Yba.underlying27 hi hz hs hby rfl (by decide) v l.length (flat l) h1.own
    ⟨w.heap.size, 0, none⟩ 1 1 (enc r) rfl (fun j u hu => by rw [add_mk, cell_of hc, Nat.zero_add]; simpa using hu) (enc_one r) (by simp only [maxLen]; omega) (by omega) h1.size
  have hvb : ∀ k, k < S + 2 → some k ≠ v.ownBlock := fun k hk e => by
    have := (h1.own.lt k e.symm).1
    omega
  have hvar := grown_heap hgr (hvb (S + 1) (by omega)) h1.var
  have hflat : flat l ++ enc r = flat (l ++ [r]) := by rw [flat_append, flat_cons, flat_nil, List.append_nil]
  have hlen : (l ++ [r]).length = l.length + 1 := by simp
  rw [hflat, ← hlen] at hown
  have hone : v'.oneCell' = true := by
    rcases hown.2 with ⟨rfl, _⟩ | ⟨g, cap, cur, rfl, _⟩ <;> rfl
  have hset : w'.grownBy (w'.setCell ⟨S + 1, 0, none⟩ v') (some (S + 1)) := ⟨rfl, rfl, rfl, by rw [size_set]; exact Nat.le_refl _, fun k hk hne => by rw [Below.heap_setCell]; exact fun e => hne (by rw [e])⟩
  refine ⟨v', w', hrun, hone, by rw [cell_of hvar]; rfl, frozen_of hvar, ⟨?_, by rw [size_set]; exact Nat.le_trans h1.size hgr.size, ?_, ?_, ?_, ?_⟩⟩
  · refine h1.below.trans ⟨hgr.os, hgr.tape, hgr.output, by rw [size_set]; exact hgr.size, fun k hk => ?_⟩
    rw [Below.heap_setCell _ _ _ _ (by show k ≠ S + 1; omega)]
    exact hgr.block k (by have := h1.size; omega) (hvb k (by omega))
  · exact heap_set_other (grown_heap hgr (hvb S (by omega)) h1.tm) (by show S ≠ S + 1; omega)
  · exact heap_set hvar
  · refine hown.kept hset ?_
    cases hv : v'.ownBlock with
    | none => exact Or.inl rfl
    | some k =>
      refine Or.inr fun e => ?_
      cases e
      have := (hown.lt _ hv).1
      omega
  · intro e; simp at e

theorem filter_take {l : List Rc} {k : Nat} {x : Rc} (f : Rc → Bool) (h : l[k]? = some x) : (l.take (k + 1)).filter f = (l.take k).filter f ++ (if f x then [x] else []) := by
  rw [take_one h, List.filter_append, List.filter_cons, List.filter_nil]

theorem neq_ptr (a : Option Addr) : (!a.isNone) = a.isSome := by cases a <;> rfl
theorem small_sorted {l : List Rc} (h : l.length ≤ 1) : l.Pairwise lx := by
  match l, h with
  | [], _ => simp
  | [x], _ => simp

set_option maxRecDepth 4000 in
theorem pending_any (bi : Nat) (recs : List Rc) (after : Int) (W : World) (hm : recs.length ≤ 4096) (hR : Rw W bi recs) (hlo : recs.Pairwise lo) :
    Calls Yba.prog 5 #[.slice (some ⟨bi, 0, none⟩) recs.length recs.length, tv after] W fun e w' => ∃ v C, e = .returned v ∧ C.Perm (recs.filter (keep after)) ∧ C.Pairwise lx ∧
      ((C = [] ∧ v = .slice none 0 0) ∨ (C ≠ [] ∧ ∃ g cap, v = .slice (some ⟨g, 0, none⟩) C.length cap ∧ W.heap.size ≤ g ∧ Rw w' g C)) ∧ Below W.heap.size W w' := by
  refine calls_of Yba.func5 rfl Yba.ntmps5 rfl ?_
  refine WC.seq (WC.region ?_)
  refine WL.val rfl rfl (Runs.box rfl) ?_
  repeat (first | (refine WL.val ?_ ?_ (Runs.move rfl) ?_; rfl; rfl) | (refine WL.val ?_ ?_ (Runs.assign rfl) ?_; rfl; rfl) | (refine WL.val ?_ ?_ (Runs.extract rfl rfl) ?_; rfl; rfl) | (refine WL.val ?_ ?_ (Runs.nilCheck rfl) ?_; rfl; rfl) | (refine WL.val ?_ ?_ (Runs.pickT rfl rfl) ?_; rfl; rfl) | (refine WL.val ?_ ?_ (Runs.pickF rfl rfl) ?_; rfl; rfl) | (refine WL.val ?_ ?_ (Runs.len rfl sl22) ?_; rfl; rfl) | (refine WL.val ?_ ?_ (Runs.len rfl sl27) ?_; rfl; rfl) | (refine WL.val ?_ ?_ (Runs.len rfl sl37) ?_; rfl; rfl) | (refine WL.pass ?_ ?_ ?_; rfl; rfl))
  refine WL.nil ?_
  repeat (first | refine AtExit.thenRet ?_ | refine AtExit.thenExit ?_ | refine AtExit.blockRet ?_ | refine AtExit.blockEnd ?_ | refine AtExit.blockExit ?_ | (refine AtExit.blockPast ?_ ?_; rfl))
  refine AtExit.go ?_
  refine WC.seq (WC.region ?_)
  refine WL.val rfl rfl (Runs.alloc in27) ?_
  refine WL.nil ?_
  repeat (first | refine AtExit.thenRet ?_ | refine AtExit.thenExit ?_ | refine AtExit.blockRet ?_ | refine AtExit.blockEnd ?_ | refine AtExit.blockExit ?_ | (refine AtExit.blockPast ?_ ?_; rfl))
  refine AtExit.go ?_
  obtain ⟨q1, q2, q3⟩ := two_new W (.cells (tv after).cells 33) (.cells (Value.slice none 0 0).cells 27)
  have hsz : W.heap.size + 2 ≤ ((W.alloc (.cells (tv after).cells 33)).alloc (.cells (Value.slice none 0 0).cells 27)).heap.size := by rw [size_new, size_new]; omega
  rw [size_new]
  generalize (W.alloc _).alloc _ = w1 at q1 q2 q3 hsz ⊢
  obtain ⟨S, hS⟩ : ∃ S, S = W.heap.size := ⟨_, rfl⟩
  have hbi : bi < S := by rw [hS]; exact hR.lt
  rw [← hS] at q1 q2 q3 hsz ⊢
  have start : Pd W w1 S after (.slice none 0 0) [] := ⟨q3, hsz, q1, q2, ⟨rfl, Or.inl ⟨rfl, rfl⟩⟩, fun _ => rfl⟩
  clear q1 q2 q3 hsz
  refine WC.cut (α := Value) (fun _ => [(5, .pointer (some ⟨S + 1, 0, none⟩))]) (fun v w' => Pd W w' S after v (recs.filter (keep after))) ?_ ?_
  · refine WC.seq (WC.region ?_)
    repeat (first | (refine WL.val ?_ ?_ (Runs.move rfl) ?_; rfl; rfl) | (refine WL.val ?_ ?_ (Runs.assign rfl) ?_; rfl; rfl) | (refine WL.val ?_ ?_ (Runs.extract rfl rfl) ?_; rfl; rfl) | (refine WL.val ?_ ?_ (Runs.nilCheck rfl) ?_; rfl; rfl) | (refine WL.val ?_ ?_ (Runs.pickT rfl rfl) ?_; rfl; rfl) | (refine WL.val ?_ ?_ (Runs.pickF rfl rfl) ?_; rfl; rfl) | (refine WL.val ?_ ?_ (Runs.len rfl sl22) ?_; rfl; rfl) | (refine WL.val ?_ ?_ (Runs.len rfl sl27) ?_; rfl; rfl) | (refine WL.val ?_ ?_ (Runs.len rfl sl37) ?_; rfl; rfl) | (refine WL.pass ?_ ?_ ?_; rfl; rfl))
    refine WL.nil ?_
    repeat (first | refine AtExit.thenRet ?_ | refine AtExit.thenExit ?_ | refine AtExit.blockRet ?_ | refine AtExit.blockEnd ?_ | refine AtExit.blockExit ?_ | (refine AtExit.blockPast ?_ ?_; rfl))
    refine AtExit.go ?_
    refine WC.block ?_
    refine WC.loop (α := Nat × Value) (fun | (k, _) => [(3, .pointer (some ⟨S, 0, none⟩)), (5, .pointer (some ⟨S + 1, 0, none⟩)), (8, .slice (some ⟨bi, 0, none⟩) recs.length recs.length), (9, .int .i64 (recs.length : Int)), (10, .int .i64 (k : Int))])
      (fun | (k, v) => fun w' => k ≤ recs.length ∧ Pd W w' S after v ((recs.take k).filter (keep after))) (fun | (k, _) => recs.length - k) (0, .slice none 0 0) (by repeat (first | exact Sub.nil _ | refine Sub.cons rfl ?_)) ⟨Nat.zero_le _, start⟩ ?_
    clear start w1
    rintro ⟨k, v⟩ w' ⟨hk, hP⟩
    refine WC.seq (WC.region ?_)
    by_cases hkm : k < recs.length
    · refine WL.val rfl rfl (Runs.lss rfl rfl (declt hkm)) ?_
      refine WL.nil ?_
      repeat (first | refine AtExit.thenRet ?_ | refine AtExit.thenExit ?_ | refine AtExit.blockRet ?_ | refine AtExit.blockEnd ?_ | refine AtExit.blockExit ?_ | (refine AtExit.blockPast ?_ ?_; rfl))
      refine AtExit.go ?_
      refine WC.seq (WC.condT rfl ?_)
      refine WC.skip ?_
      repeat (first | refine AtExit.thenRet ?_ | refine AtExit.thenExit ?_ | refine AtExit.blockRet ?_ | refine AtExit.blockEnd ?_ | refine AtExit.blockExit ?_ | (refine AtExit.blockPast ?_ ?_; rfl))
      refine AtExit.go ?_
      obtain ⟨x, hx⟩ := get_some hkm
      have hft := filter_take (keep after) hx
      have hRw := hR.below hP.below hbi
      refine WC.seq (WC.block ?_)
      refine WC.seq (WC.region ?_)
      refine WL.val rfl rfl (Runs.idx rfl rfl Yba.underlying27 sz36 rfl hkm) ?_
      refine WL.val rfl rfl (Runs.loadAgg (cs := enc x) rfl na36 sz36 (fun j u hu => hRw.cell hx hu)) ?_
      refine WL.val rfl rfl (Runs.alloc in36) ?_
      have hb1 := below_new w' (.cells (Value.agg #[.int .i64 0, .int .u64 0, .int .i64 0, .pointer none, .pointer none]).cells 36) (Nat.le_refl _)
      have hc1 := heap_new w' (.cells (Value.agg #[.int .i64 0, .int .u64 0, .int .i64 0, .pointer none, .pointer none]).cells 36)
      refine WL.skip rfl (RunsS.storeRow rfl rfl (by simp [enc, Value.oneCell']) sz36 hc1 rfl) ?_
      refine WL.nil ?_
      repeat (first | refine AtExit.thenRet ?_ | refine AtExit.thenExit ?_ | refine AtExit.blockRet ?_ | refine AtExit.blockEnd ?_ | refine AtExit.blockExit ?_ | (refine AtExit.blockPast ?_ ?_; rfl))
      refine AtExit.go ?_
      have hc2 := setRow_heap _ _ _ (enc x).toArray _ _ hc1
      have hb2 := hb1.trans (below_setRow' _ w'.heap.size (enc x).toArray (Nat.le_refl _))
      generalize (w'.alloc _).setRow _ _ = w2 at hc2 hb2 ⊢
      generalize hX : w'.heap.size = X at hc2 hb2 ⊢
      have hP2 := hP.up (by rw [hX]; exact hb2)
      clear hc1 hb1
      refine WC.seq (WC.region ?_)
      refine WL.val rfl rfl (Runs.fld rfl fl36_2) ?_
      refine WL.val rfl rfl (Runs.load rfl na23 (v := .pointer x.ek) (by rw [cell_of hc2]; rfl)) ?_
      refine WL.val rfl rfl (Runs.neqPN rfl pt23 rfl) ?_
      cases hek : x.ek.isSome
      · repeat (first | (refine WL.val ?_ ?_ (Runs.move rfl) ?_; rfl; rfl) | (refine WL.val ?_ ?_ (Runs.assign rfl) ?_; rfl; rfl) | (refine WL.val ?_ ?_ (Runs.extract rfl rfl) ?_; rfl; rfl) | (refine WL.val ?_ ?_ (Runs.nilCheck rfl) ?_; rfl; rfl) | (refine WL.val ?_ ?_ (Runs.pickT rfl rfl) ?_; rfl; rfl) | (refine WL.val ?_ ?_ (Runs.pickF rfl rfl) ?_; rfl; rfl) | (refine WL.val ?_ ?_ (Runs.len rfl sl22) ?_; rfl; rfl) | (refine WL.val ?_ ?_ (Runs.len rfl sl27) ?_; rfl; rfl) | (refine WL.val ?_ ?_ (Runs.len rfl sl37) ?_; rfl; rfl) | (refine WL.pass ?_ ?_ ?_; rfl; rfl))
        refine WL.nil ?_
        repeat (first | refine AtExit.thenRet ?_ | refine AtExit.thenExit ?_ | refine AtExit.blockRet ?_ | refine AtExit.blockEnd ?_ | refine AtExit.blockExit ?_ | (refine AtExit.blockPast ?_ ?_; rfl))
        refine AtExit.go ?_
        refine WC.condF rfl ?_
        refine WC.skip ?_
        repeat (first | refine AtExit.thenRet ?_ | refine AtExit.thenExit ?_ | refine AtExit.blockRet ?_ | refine AtExit.blockEnd ?_ | refine AtExit.blockExit ?_ | (refine AtExit.blockPast ?_ ?_; rfl))
        refine AtExit.go ?_
        refine WC.region ?_
        refine WL.val rfl rfl (Runs.add rfl rfl (r := ((k + 1 : Nat) : Int)) (wI (by omega) (by omega) (by omega))) ?_
        repeat (first | (refine WL.val ?_ ?_ (Runs.move rfl) ?_; rfl; rfl) | (refine WL.val ?_ ?_ (Runs.assign rfl) ?_; rfl; rfl) | (refine WL.val ?_ ?_ (Runs.extract rfl rfl) ?_; rfl; rfl) | (refine WL.val ?_ ?_ (Runs.nilCheck rfl) ?_; rfl; rfl) | (refine WL.val ?_ ?_ (Runs.pickT rfl rfl) ?_; rfl; rfl) | (refine WL.val ?_ ?_ (Runs.pickF rfl rfl) ?_; rfl; rfl) | (refine WL.val ?_ ?_ (Runs.len rfl sl22) ?_; rfl; rfl) | (refine WL.val ?_ ?_ (Runs.len rfl sl27) ?_; rfl; rfl) | (refine WL.val ?_ ?_ (Runs.len rfl sl37) ?_; rfl; rfl) | (refine WL.pass ?_ ?_ ?_; rfl; rfl))
        have hkp : keep after x = false := by unfold keep; rw [hek]; rfl
        rw [hkp, if_neg (by decide), List.append_nil] at hft
        refine WL.nil ?_
        repeat (first | refine AtExit.thenRet ?_ | refine AtExit.thenExit ?_ | refine AtExit.blockRet ?_ | refine AtExit.blockEnd ?_ | refine AtExit.blockExit ?_ | (refine AtExit.blockPast ?_ ?_; rfl))
        refine AtExit.inv fun a ha => ⟨(k + 1, v), ha.sub (by repeat (first | exact Sub.nil _ | refine Sub.cons rfl ?_)), ⟨by omega, by rw [hft]; exact hP2⟩, by show recs.length - (k + 1) < recs.length - k; omega⟩
      · repeat (first | (refine WL.val ?_ ?_ (Runs.move rfl) ?_; rfl; rfl) | (refine WL.val ?_ ?_ (Runs.assign rfl) ?_; rfl; rfl) | (refine WL.val ?_ ?_ (Runs.extract rfl rfl) ?_; rfl; rfl) | (refine WL.val ?_ ?_ (Runs.nilCheck rfl) ?_; rfl; rfl) | (refine WL.val ?_ ?_ (Runs.pickT rfl rfl) ?_; rfl; rfl) | (refine WL.val ?_ ?_ (Runs.pickF rfl rfl) ?_; rfl; rfl) | (refine WL.val ?_ ?_ (Runs.len rfl sl22) ?_; rfl; rfl) | (refine WL.val ?_ ?_ (Runs.len rfl sl27) ?_; rfl; rfl) | (refine WL.val ?_ ?_ (Runs.len rfl sl37) ?_; rfl; rfl) | (refine WL.pass ?_ ?_ ?_; rfl; rfl))
        refine WL.val rfl rfl (Runs.fld rfl fl36_1) ?_
        refine WL.val rfl rfl (Runs.loadAgg (cs := [.int .u64 (x.day % 1000000000), .int .i64 (x.day / 1000000000), .pointer none]) rfl na33 sz33 (fun j u hu => by rw [cell_of hc2]; match j, hu with | 0, hu => exact hu | 1, hu => exact hu | 2, hu => exact hu)) ?_
        refine WL.val rfl rfl (Runs.loadAgg (cs := [.int .u64 (after % 1000000000), .int .i64 (after / 1000000000), .pointer none]) rfl na33 sz33 (fun j u hu => by rw [cell_of hP2.tm, Nat.zero_add]; simpa using hu)) ?_
        refine WL.call rfl rfl (RunsC.call rfl en7) (after_any x.day after w2) ?_
        rintro e w3 ⟨rfl, hb3⟩
        refine ⟨_, rfl, ?_⟩
        have hP3 := hP2.up hb3
        have hc3 := below_heap hb3 (lt_of_heap hc2) hc2
        repeat (first | (refine WL.val ?_ ?_ (Runs.move rfl) ?_; rfl; rfl) | (refine WL.val ?_ ?_ (Runs.assign rfl) ?_; rfl; rfl) | (refine WL.val ?_ ?_ (Runs.extract rfl rfl) ?_; rfl; rfl) | (refine WL.val ?_ ?_ (Runs.nilCheck rfl) ?_; rfl; rfl) | (refine WL.val ?_ ?_ (Runs.pickT rfl rfl) ?_; rfl; rfl) | (refine WL.val ?_ ?_ (Runs.pickF rfl rfl) ?_; rfl; rfl) | (refine WL.val ?_ ?_ (Runs.len rfl sl22) ?_; rfl; rfl) | (refine WL.val ?_ ?_ (Runs.len rfl sl27) ?_; rfl; rfl) | (refine WL.val ?_ ?_ (Runs.len rfl sl37) ?_; rfl; rfl) | (refine WL.pass ?_ ?_ ?_; rfl; rfl))
        refine WL.nil ?_
        repeat (first | refine AtExit.thenRet ?_ | refine AtExit.thenExit ?_ | refine AtExit.blockRet ?_ | refine AtExit.blockEnd ?_ | refine AtExit.blockExit ?_ | (refine AtExit.blockPast ?_ ?_; rfl))
        refine AtExit.go ?_
        by_cases hd : after < x.day
        · have hkp : keep after x = true := by unfold keep; rw [hek, dtrue hd]; rfl
          rw [hkp, if_pos rfl] at hft
          rw [dtrue hd]
          refine WC.condT rfl ?_
          obtain ⟨v', w4, hrun, h1, hcell, hfr, hP4⟩ := hP3.add x (by
            have := List.length_filter_le (keep after) (recs.take k)
            rw [List.length_take] at this
            omega)
          refine WC.region ?_
          refine WL.val rfl rfl (Runs.load rfl na27 (v := v) (by rw [cell_of hP3.var]; rfl)) ?_
          refine WL.val rfl rfl (Runs.loadAgg (cs := enc x) rfl na36 sz36 (fun j u hu => by rw [cell_of hc3, Nat.zero_add]; simpa using hu)) ?_
          refine WL.val rfl rfl (Runs.sliceK rfl Yba.underlying27 in36 (by decide) (by decide) (by kernel_rfl)) ?_
          refine WL.val rfl rfl (Runs.append rfl hrun) ?_
          refine WL.skip rfl (RunsS.store rfl rfl h1 sz27 hcell hfr) ?_
          refine WL.nil ?_
          repeat (first | refine AtExit.thenRet ?_ | refine AtExit.thenExit ?_ | refine AtExit.blockRet ?_ | refine AtExit.blockEnd ?_ | refine AtExit.blockExit ?_ | (refine AtExit.blockPast ?_ ?_; rfl))
          refine AtExit.go ?_
          refine WC.region ?_
          refine WL.val rfl rfl (Runs.add rfl rfl (r := ((k + 1 : Nat) : Int)) (wI (by omega) (by omega) (by omega))) ?_
          repeat (first | (refine WL.val ?_ ?_ (Runs.move rfl) ?_; rfl; rfl) | (refine WL.val ?_ ?_ (Runs.assign rfl) ?_; rfl; rfl) | (refine WL.val ?_ ?_ (Runs.extract rfl rfl) ?_; rfl; rfl) | (refine WL.val ?_ ?_ (Runs.nilCheck rfl) ?_; rfl; rfl) | (refine WL.val ?_ ?_ (Runs.pickT rfl rfl) ?_; rfl; rfl) | (refine WL.val ?_ ?_ (Runs.pickF rfl rfl) ?_; rfl; rfl) | (refine WL.val ?_ ?_ (Runs.len rfl sl22) ?_; rfl; rfl) | (refine WL.val ?_ ?_ (Runs.len rfl sl27) ?_; rfl; rfl) | (refine WL.val ?_ ?_ (Runs.len rfl sl37) ?_; rfl; rfl) | (refine WL.pass ?_ ?_ ?_; rfl; rfl))
          refine WL.nil ?_
          repeat (first | refine AtExit.thenRet ?_ | refine AtExit.thenExit ?_ | refine AtExit.blockRet ?_ | refine AtExit.blockEnd ?_ | refine AtExit.blockExit ?_ | (refine AtExit.blockPast ?_ ?_; rfl))
          refine AtExit.inv fun a ha => ⟨(k + 1, v'), ha.sub (by repeat (first | exact Sub.nil _ | refine Sub.cons rfl ?_)), ⟨by omega, by rw [hft]; exact hP4⟩, by show recs.length - (k + 1) < recs.length - k; omega⟩
        · have hkp : keep after x = false := by unfold keep; rw [hek, dfalse hd]; rfl
          rw [hkp, if_neg (by decide), List.append_nil] at hft
          rw [dfalse hd]
          refine WC.condF rfl ?_
          refine WC.skip ?_
          repeat (first | refine AtExit.thenRet ?_ | refine AtExit.thenExit ?_ | refine AtExit.blockRet ?_ | refine AtExit.blockEnd ?_ | refine AtExit.blockExit ?_ | (refine AtExit.blockPast ?_ ?_; rfl))
          refine AtExit.go ?_
          refine WC.region ?_
          refine WL.val rfl rfl (Runs.add rfl rfl (r := ((k + 1 : Nat) : Int)) (wI (by omega) (by omega) (by omega))) ?_
          repeat (first | (refine WL.val ?_ ?_ (Runs.move rfl) ?_; rfl; rfl) | (refine WL.val ?_ ?_ (Runs.assign rfl) ?_; rfl; rfl) | (refine WL.val ?_ ?_ (Runs.extract rfl rfl) ?_; rfl; rfl) | (refine WL.val ?_ ?_ (Runs.nilCheck rfl) ?_; rfl; rfl) | (refine WL.val ?_ ?_ (Runs.pickT rfl rfl) ?_; rfl; rfl) | (refine WL.val ?_ ?_ (Runs.pickF rfl rfl) ?_; rfl; rfl) | (refine WL.val ?_ ?_ (Runs.len rfl sl22) ?_; rfl; rfl) | (refine WL.val ?_ ?_ (Runs.len rfl sl27) ?_; rfl; rfl) | (refine WL.val ?_ ?_ (Runs.len rfl sl37) ?_; rfl; rfl) | (refine WL.pass ?_ ?_ ?_; rfl; rfl))
          refine WL.nil ?_
          repeat (first | refine AtExit.thenRet ?_ | refine AtExit.thenExit ?_ | refine AtExit.blockRet ?_ | refine AtExit.blockEnd ?_ | refine AtExit.blockExit ?_ | (refine AtExit.blockPast ?_ ?_; rfl))
          refine AtExit.inv fun a ha => ⟨(k + 1, v), ha.sub (by repeat (first | exact Sub.nil _ | refine Sub.cons rfl ?_)), ⟨by omega, by rw [hft]; exact hP3⟩, by show recs.length - (k + 1) < recs.length - k; omega⟩
    · refine WL.val rfl rfl (Runs.lss rfl rfl (decge hkm)) ?_
      refine WL.nil ?_
      repeat (first | refine AtExit.thenRet ?_ | refine AtExit.thenExit ?_ | refine AtExit.blockRet ?_ | refine AtExit.blockEnd ?_ | refine AtExit.blockExit ?_ | (refine AtExit.blockPast ?_ ?_; rfl))
      refine AtExit.go ?_
      refine WC.seq (WC.condF rfl ?_)
      have d2 : recs.take k = recs := List.take_of_length_le (by omega)
      rw [d2] at hP
      refine WC.exit ?_
      repeat (first | refine AtExit.thenRet ?_ | refine AtExit.thenExit ?_ | refine AtExit.blockRet ?_ | refine AtExit.blockEnd ?_ | refine AtExit.blockExit ?_ | (refine AtExit.blockPast ?_ ?_; rfl))
      refine AtExit.inv fun a ha => ⟨v, ha.sub (by repeat (first | exact Sub.nil _ | refine Sub.cons rfl ?_)), hP⟩
  clear start w1
  rintro v w' hP
  generalize hE0 : recs.filter (keep after) = E at hP
  have hEl : E.length ≤ 4096 := by
    have := List.length_filter_le (keep after) recs
    rw [hE0] at this
    omega
  have hElo : E.Pairwise lo := by rw [← hE0]; exact hlo.filter _
  have hSS : S + 1 < w'.heap.size := lt_of_heap hP.var
  refine WC.seq (WC.region ?_)
  refine WL.val rfl rfl (Runs.load rfl na27 (v := v) (by rw [cell_of hP.var]; rfl)) ?_
  refine WL.val rfl rfl (Runs.mkIface rfl (by kernel_rfl)) ?_
  refine WL.val rfl rfl (Runs.mkFunc rfl) ?_
  by_cases h2 : 2 ≤ E.length
  · have hne : E ≠ [] := fun e => by rw [e] at h2; simp at h2
    obtain ⟨g, cap, rfl, hg, hrw⟩ := owns_rw hP.own hne
    have env : Env g (S + 1) E.length cap w' E := ⟨hrw, rfl, hP.var, by omega⟩
    refine WL.call rfl rfl (RunsC.call rfl en8) (slice_any h2 hEl E w' env hElo) ?_
    rintro e w2 ⟨rfl, ⟨C, hE2, hp2, hs2⟩, hg2⟩
    refine ⟨_, rfl, ?_⟩
    refine WL.nil ?_
    repeat (first | refine AtExit.thenRet ?_ | refine AtExit.thenExit ?_ | refine AtExit.blockRet ?_ | refine AtExit.blockEnd ?_ | refine AtExit.blockExit ?_ | (refine AtExit.blockPast ?_ ?_; rfl))
    refine AtExit.go ?_
    refine WC.seq (WC.region ?_)
    refine WL.val rfl rfl (Runs.load rfl na27 (v := .slice (some ⟨g, 0, none⟩) E.length cap) (by rw [cell_of hE2.var]; rfl)) ?_
    repeat (first | (refine WL.val ?_ ?_ (Runs.move rfl) ?_; rfl; rfl) | (refine WL.val ?_ ?_ (Runs.assign rfl) ?_; rfl; rfl) | (refine WL.val ?_ ?_ (Runs.extract rfl rfl) ?_; rfl; rfl) | (refine WL.val ?_ ?_ (Runs.nilCheck rfl) ?_; rfl; rfl) | (refine WL.val ?_ ?_ (Runs.pickT rfl rfl) ?_; rfl; rfl) | (refine WL.val ?_ ?_ (Runs.pickF rfl rfl) ?_; rfl; rfl) | (refine WL.val ?_ ?_ (Runs.len rfl sl22) ?_; rfl; rfl) | (refine WL.val ?_ ?_ (Runs.len rfl sl27) ?_; rfl; rfl) | (refine WL.val ?_ ?_ (Runs.len rfl sl37) ?_; rfl; rfl) | (refine WL.pass ?_ ?_ ?_; rfl; rfl))
    refine WL.nil ?_
    repeat (first | refine AtExit.thenRet ?_ | refine AtExit.thenExit ?_ | refine AtExit.blockRet ?_ | refine AtExit.blockEnd ?_ | refine AtExit.blockExit ?_ | (refine AtExit.blockPast ?_ ?_; rfl))
    refine AtExit.go ?_
    refine WC.ret ?_
    repeat (first | refine AtExit.thenRet ?_ | refine AtExit.thenExit ?_ | refine AtExit.blockRet ?_ | refine AtExit.blockEnd ?_ | refine AtExit.blockExit ?_ | (refine AtExit.blockPast ?_ ?_; rfl))
    refine post1 rfl rfl ⟨_, C, rfl, hp2, hs2, Or.inr ⟨fun e => ?_, g, cap, by rw [hp2.length_eq], by omega, hE2.row⟩, ?_⟩
    · have := hp2.length_eq
      rw [e] at this
      simp at this
      omega
    · exact hP.below.trans (below_of_grown hg2 (by omega) (by omega))
  · have h1 : E.length ≤ 1 := by omega
    obtain ⟨p, c, hv⟩ : ∃ p c, v = .slice p E.length c := by
      rcases hP.own.2 with ⟨rfl, h0⟩ | ⟨g, cap, cur, rfl, _⟩
      · exact ⟨none, 0, by rw [h0]⟩
      · exact ⟨_, _, rfl⟩
    subst hv
    refine WL.call rfl rfl (RunsC.call rfl en8) (slice_tiny p E.length c (S + 1) h1 w') ?_
    rintro e w2 ⟨rfl, hb2⟩
    refine ⟨_, rfl, ?_⟩
    have hP2 := hP.up hb2
    refine WL.nil ?_
    repeat (first | refine AtExit.thenRet ?_ | refine AtExit.thenExit ?_ | refine AtExit.blockRet ?_ | refine AtExit.blockEnd ?_ | refine AtExit.blockExit ?_ | (refine AtExit.blockPast ?_ ?_; rfl))
    refine AtExit.go ?_
    refine WC.seq (WC.region ?_)
    refine WL.val rfl rfl (Runs.load rfl na27 (v := .slice p E.length c) (by rw [cell_of hP2.var]; rfl)) ?_
    repeat (first | (refine WL.val ?_ ?_ (Runs.move rfl) ?_; rfl; rfl) | (refine WL.val ?_ ?_ (Runs.assign rfl) ?_; rfl; rfl) | (refine WL.val ?_ ?_ (Runs.extract rfl rfl) ?_; rfl; rfl) | (refine WL.val ?_ ?_ (Runs.nilCheck rfl) ?_; rfl; rfl) | (refine WL.val ?_ ?_ (Runs.pickT rfl rfl) ?_; rfl; rfl) | (refine WL.val ?_ ?_ (Runs.pickF rfl rfl) ?_; rfl; rfl) | (refine WL.val ?_ ?_ (Runs.len rfl sl22) ?_; rfl; rfl) | (refine WL.val ?_ ?_ (Runs.len rfl sl27) ?_; rfl; rfl) | (refine WL.val ?_ ?_ (Runs.len rfl sl37) ?_; rfl; rfl) | (refine WL.pass ?_ ?_ ?_; rfl; rfl))
    refine WL.nil ?_
    repeat (first | refine AtExit.thenRet ?_ | refine AtExit.thenExit ?_ | refine AtExit.blockRet ?_ | refine AtExit.blockEnd ?_ | refine AtExit.blockExit ?_ | (refine AtExit.blockPast ?_ ?_; rfl))
    refine AtExit.go ?_
    refine WC.ret ?_
    repeat (first | refine AtExit.thenRet ?_ | refine AtExit.thenExit ?_ | refine AtExit.blockRet ?_ | refine AtExit.blockEnd ?_ | refine AtExit.blockExit ?_ | (refine AtExit.blockPast ?_ ?_; rfl))
    refine post1 rfl rfl ⟨_, E, rfl, List.Perm.refl _, small_sorted h1, ?_, hP2.below⟩
    by_cases hnil : E = []
    · exact Or.inl ⟨hnil, hP2.nil hnil⟩
    · obtain ⟨g, cap, hv, hg, hrw⟩ := owns_rw hP2.own hnil
      exact Or.inr ⟨hnil, g, cap, hv, by omega, hrw⟩
end Go.Proofs.Ybulkgfau
