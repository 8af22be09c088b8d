/- heap.Push, heap.Remove; the clock's start, stop, left. -/
import Derived.Test.YbulkgfdmQueue
namespace Go.Proofs.Ybulkgfdm
open Go Go.Fr Go.RowKit

theorem el28 : Yba.prog.underlying 28 = some (.slice (Yba.prog.elem 28)) := by kernel_rfl
theorem sze28 : sizeB Yba.prog (Yba.prog.elem 28) = some 1 := by kernel_rfl
theorem Runs.sliceH {n : Nat} {l : List (Nat × Value)} {w : World} {ty : TypeId} {x y : Operand} {g len cap m : Nat} {k : IntKind} (hx : ev l x = some (.slice (some ⟨g, 0, none⟩) len cap)) (hy : ev l y = some (.int k (m : Int))) (hm : m ≤ cap) :
    Runs Yba.prog n l (.slice 28 x none (some y) none) ty w (.slice (some ⟨g, 0, none⟩) m cap) w := by
  refine ⟨fun c d p af g' ha => ?_⟩
  have h1 := run_slice_h (P := Yba.prog) w 28 (some ⟨g, 0, none⟩) len cap el28 k (m : Int) (by omega) (by omega)
  rw [Fr.run_sizeOf sze28] at h1
  have h2 : sliced (some ⟨g, 0, none⟩) 0 (m : Int).toNat cap 1 = .slice (some ⟨g, 0, none⟩) m cap := by
    unfold sliced
    simp [Addr.add]
  rw [Result.andThen, h2] at h1
  simp only [execOp, Option.map_none, Option.map_some, ha.ev hx, ha.ev hy, Sem.run_bind, run_sliceAt_slice w 28 _ _ _ _ el28, h1, Result.andThen]; rfl

section
variable {N : Nat} {inf : Nat → TI} {C : Nat} {now : Int} {st : Nat}
theorem HQ.slot {w : World} {v : Value} {ts : List Nat} (h : HQ N inf C now st w v ts) (hn : 0 < ts.length) : ∃ g cap, v = .slice (some ⟨g, 0, none⟩) ts.length cap := own_row h.own hn

theorem heapPush_any {w : World} {v : Value} {ts : List Nat} (h : HQ N inf C now st w v ts) (hN : N ≤ w.heap.size) (hl : ts.length < 4999) (t : Nat) (i0 : Nat) (hT : TimerAt w t (inf t).due (inf t).start i0 (inf t).fire) (hnt : t ∉ ts) :
    Calls Yba.prog 10 #[.iface 75 (.pointer (some ⟨C, 0 + 1, none⟩)), .iface 42 (pv t)] w fun e w' => e = .returned (.tuple #[]) ∧ ∃ v' ts', HQ N inf C now st w' v' ts' ∧ ts'.Perm (ts ++ [t]) ∧ Chg w w' (fun k => k = C ∨ k = t ∨ v.ownBlock = some k ∨ k ∈ ts) ∧
      (∀ k, v'.ownBlock = some k → v.ownBlock = some k ∨ w.heap.size ≤ k) := by
  refine calls_of Yba.func10 rfl Yba.ntmps10 rfl ?_
  refine WC.seq (WC.region ?_)
  repeat (first | (refine WL.val ?_ ?_ (Runs.move rfl) ?_; rfl; rfl) | (refine WL.val ?_ ?_ (Runs.assign rfl) ?_; rfl; rfl) | (refine WL.val ?_ ?_ (Runs.extract rfl rfl) ?_; rfl; rfl) | (refine WL.val ?_ ?_ (Runs.nilCheck rfl) ?_; rfl; rfl) | (refine WL.val ?_ ?_ (Runs.pickT rfl rfl) ?_; rfl; rfl) | (refine WL.val ?_ ?_ (Runs.pickF rfl rfl) ?_; rfl; rfl) | (refine WL.val ?_ ?_ (Runs.len rfl sl22) ?_; rfl; rfl) | (refine WL.val ?_ ?_ (Runs.len rfl sl23) ?_; rfl; rfl) | (refine WL.val ?_ ?_ (Runs.len rfl sl27) ?_; rfl; rfl) | (refine WL.val ?_ ?_ (Runs.len rfl sl28) ?_; rfl; rfl) | (refine WL.val ?_ ?_ (Runs.len rfl sl39) ?_; rfl; rfl) | (refine WL.val ?_ ?_ (Runs.len rfl sl64) ?_; rfl; rfl) | (refine WL.val ?_ ?_ (Runs.len rfl sl68) ?_; rfl; rfl) | (refine WL.val ?_ ?_ (Runs.len rfl sl86) ?_; rfl; rfl) | (refine WL.val ?_ ?_ (Runs.len rfl sl113) ?_; rfl; rfl) | (refine WL.pass ?_ ?_ ?_; rfl; rfl))
  refine WL.call rfl rfl (RunsC.method rfl rfl (m_push C w) en72) (push_any h hN (by omega) t i0 hT hnt) ?_
  rintro e w1 ⟨rfl, v', hq1, hc1, hloc⟩
  refine ⟨_, rfl, ?_⟩
  refine WL.nil ?_
  repeat (first | refine AtExit.thenRet ?_ | refine AtExit.thenExit ?_ | refine AtExit.blockRet ?_ | refine AtExit.blockEnd ?_ | refine AtExit.blockExit ?_ | (refine AtExit.blockPast ?_ ?_; rfl))
  refine AtExit.go ?_
  obtain ⟨g, cap, hv'⟩ := hq1.slot (by simp)
  have hlen : (ts ++ [t]).length = ts.length + 1 := by simp
  rw [hlen] at hv'
  subst hv'
  refine WC.region ?_
  repeat (first | (refine WL.val ?_ ?_ (Runs.move rfl) ?_; rfl; rfl) | (refine WL.val ?_ ?_ (Runs.assign rfl) ?_; rfl; rfl) | (refine WL.val ?_ ?_ (Runs.extract rfl rfl) ?_; rfl; rfl) | (refine WL.val ?_ ?_ (Runs.nilCheck rfl) ?_; rfl; rfl) | (refine WL.val ?_ ?_ (Runs.pickT rfl rfl) ?_; rfl; rfl) | (refine WL.val ?_ ?_ (Runs.pickF rfl rfl) ?_; rfl; rfl) | (refine WL.val ?_ ?_ (Runs.len rfl sl22) ?_; rfl; rfl) | (refine WL.val ?_ ?_ (Runs.len rfl sl23) ?_; rfl; rfl) | (refine WL.val ?_ ?_ (Runs.len rfl sl27) ?_; rfl; rfl) | (refine WL.val ?_ ?_ (Runs.len rfl sl28) ?_; rfl; rfl) | (refine WL.val ?_ ?_ (Runs.len rfl sl39) ?_; rfl; rfl) | (refine WL.val ?_ ?_ (Runs.len rfl sl64) ?_; rfl; rfl) | (refine WL.val ?_ ?_ (Runs.len rfl sl68) ?_; rfl; rfl) | (refine WL.val ?_ ?_ (Runs.len rfl sl86) ?_; rfl; rfl) | (refine WL.val ?_ ?_ (Runs.len rfl sl113) ?_; rfl; rfl) | (refine WL.pass ?_ ?_ ?_; rfl; rfl))
  refine WL.call rfl rfl (RunsC.method rfl rfl (m_len C w1 hq1.c1) en63) (len_any _ _ _ w1) ?_
  rintro e w2 ⟨rfl, rfl⟩
  refine ⟨_, rfl, ?_⟩
  refine WL.val rfl rfl (Runs.sub rfl rfl (r := (ts.length : Int)) (wI (by omega) (by omega) (by omega))) ?_
  refine WL.call rfl rfl (RunsC.call rfl en13) (up_any (by omega) hq1 hlen ts.length (by omega)) ?_
  rintro e w3 ⟨rfl, ts', hM, _⟩
  refine ⟨_, rfl, ?_⟩
  refine WL.nil ?_
  refine post0e rfl ⟨rfl, _, ts', hM.hq, hM.perm, ?_, hloc⟩
  have hc3 : Chg w2 w3 (fun k => k = C ∨ k = t ∨ v.ownBlock = some k ∨ k ∈ ts ∨ w.heap.size ≤ k) := hM.chg.mono fun k _ hk => by
    rcases hk with rfl | hk
    · rcases hloc k rfl with h1 | h1
      · exact Or.inr (Or.inr (Or.inl h1))
      · exact Or.inr (Or.inr (Or.inr (Or.inr h1)))
    · rcases List.mem_append.1 hk with h1 | h1
      · exact Or.inr (Or.inr (Or.inr (Or.inl h1)))
      · exact Or.inr (Or.inl (List.mem_singleton.1 h1))
  have hc1' : Chg w w2 (fun k => k = C ∨ k = t ∨ v.ownBlock = some k ∨ k ∈ ts ∨ w.heap.size ≤ k) := hc1.mono fun k _ hk => by
    rcases hk with h1 | h1 | h1
    · exact Or.inl h1
    · exact Or.inr (Or.inl h1)
    · exact Or.inr (Or.inr (Or.inl h1))
  exact (hc1'.trans hc3).mono fun k hkl hk => by
    rcases hk with h1 | h1 | h1 | h1 | h1
    · exact Or.inl h1
    · exact Or.inr (Or.inl h1)
    · exact Or.inr (Or.inr (Or.inl h1))
    · exact Or.inr (Or.inr (Or.inr h1))
    · omega

theorem pop_any {w : World} {g n cap : Nat} {ts : List Nat} (hn5 : n ≤ 5000) (h : HQ N inf C now st w (.slice (some ⟨g, 0, none⟩) (n + 1) cap) ts) (hl : ts.length = n + 1) :
    Calls Yba.prog 71 #[.pointer (some ⟨C, 0 + 1, none⟩)] w fun e w' => (∃ r, e = .returned r) ∧ HQ N inf C now st w' (.slice (some ⟨g, 0, none⟩) n cap) (ts.take n) ∧ Chg w w' (fun k => k = C ∨ k = g) := by
  obtain ⟨t, ht⟩ : ∃ t, ts[n]? = some t := ⟨_, List.getElem?_eq_getElem (by omega)⟩
  obtain ⟨hgC, hgt, _, _⟩ := h.row_ne rfl
  have hown := h.own
  rw [hl] at hown
  obtain ⟨cur, _, _, hcap, _⟩ := own_in hown
  refine calls_of Yba.func71 rfl Yba.ntmps71 rfl ?_
  refine WC.seq (WC.region ?_)
  repeat (first | (refine WL.val ?_ ?_ (Runs.move rfl) ?_; rfl; rfl) | (refine WL.val ?_ ?_ (Runs.assign rfl) ?_; rfl; rfl) | (refine WL.val ?_ ?_ (Runs.extract rfl rfl) ?_; rfl; rfl) | (refine WL.val ?_ ?_ (Runs.nilCheck rfl) ?_; rfl; rfl) | (refine WL.val ?_ ?_ (Runs.pickT rfl rfl) ?_; rfl; rfl) | (refine WL.val ?_ ?_ (Runs.pickF rfl rfl) ?_; rfl; rfl) | (refine WL.val ?_ ?_ (Runs.len rfl sl22) ?_; rfl; rfl) | (refine WL.val ?_ ?_ (Runs.len rfl sl23) ?_; rfl; rfl) | (refine WL.val ?_ ?_ (Runs.len rfl sl27) ?_; rfl; rfl) | (refine WL.val ?_ ?_ (Runs.len rfl sl28) ?_; rfl; rfl) | (refine WL.val ?_ ?_ (Runs.len rfl sl39) ?_; rfl; rfl) | (refine WL.val ?_ ?_ (Runs.len rfl sl64) ?_; rfl; rfl) | (refine WL.val ?_ ?_ (Runs.len rfl sl68) ?_; rfl; rfl) | (refine WL.val ?_ ?_ (Runs.len rfl sl86) ?_; rfl; rfl) | (refine WL.val ?_ ?_ (Runs.len rfl sl113) ?_; rfl; rfl) | (refine WL.pass ?_ ?_ ?_; rfl; rfl))
  refine WL.nil ?_
  repeat (first | refine AtExit.thenRet ?_ | refine AtExit.thenExit ?_ | refine AtExit.blockRet ?_ | refine AtExit.blockEnd ?_ | refine AtExit.blockExit ?_ | (refine AtExit.blockPast ?_ ?_; rfl))
  refine AtExit.go ?_
  refine WC.seq (WC.region ?_)
  repeat (first | (refine WL.val ?_ ?_ (Runs.move rfl) ?_; rfl; rfl) | (refine WL.val ?_ ?_ (Runs.assign rfl) ?_; rfl; rfl) | (refine WL.val ?_ ?_ (Runs.extract rfl rfl) ?_; rfl; rfl) | (refine WL.val ?_ ?_ (Runs.nilCheck rfl) ?_; rfl; rfl) | (refine WL.val ?_ ?_ (Runs.pickT rfl rfl) ?_; rfl; rfl) | (refine WL.val ?_ ?_ (Runs.pickF rfl rfl) ?_; rfl; rfl) | (refine WL.val ?_ ?_ (Runs.len rfl sl22) ?_; rfl; rfl) | (refine WL.val ?_ ?_ (Runs.len rfl sl23) ?_; rfl; rfl) | (refine WL.val ?_ ?_ (Runs.len rfl sl27) ?_; rfl; rfl) | (refine WL.val ?_ ?_ (Runs.len rfl sl28) ?_; rfl; rfl) | (refine WL.val ?_ ?_ (Runs.len rfl sl39) ?_; rfl; rfl) | (refine WL.val ?_ ?_ (Runs.len rfl sl64) ?_; rfl; rfl) | (refine WL.val ?_ ?_ (Runs.len rfl sl68) ?_; rfl; rfl) | (refine WL.val ?_ ?_ (Runs.len rfl sl86) ?_; rfl; rfl) | (refine WL.val ?_ ?_ (Runs.len rfl sl113) ?_; rfl; rfl) | (refine WL.pass ?_ ?_ ?_; rfl; rfl))
  refine WL.val rfl rfl (Runs.load rfl na28 h.c1) ?_
  repeat (first | (refine WL.val ?_ ?_ (Runs.move rfl) ?_; rfl; rfl) | (refine WL.val ?_ ?_ (Runs.assign rfl) ?_; rfl; rfl) | (refine WL.val ?_ ?_ (Runs.extract rfl rfl) ?_; rfl; rfl) | (refine WL.val ?_ ?_ (Runs.nilCheck rfl) ?_; rfl; rfl) | (refine WL.val ?_ ?_ (Runs.pickT rfl rfl) ?_; rfl; rfl) | (refine WL.val ?_ ?_ (Runs.pickF rfl rfl) ?_; rfl; rfl) | (refine WL.val ?_ ?_ (Runs.len rfl sl22) ?_; rfl; rfl) | (refine WL.val ?_ ?_ (Runs.len rfl sl23) ?_; rfl; rfl) | (refine WL.val ?_ ?_ (Runs.len rfl sl27) ?_; rfl; rfl) | (refine WL.val ?_ ?_ (Runs.len rfl sl28) ?_; rfl; rfl) | (refine WL.val ?_ ?_ (Runs.len rfl sl39) ?_; rfl; rfl) | (refine WL.val ?_ ?_ (Runs.len rfl sl64) ?_; rfl; rfl) | (refine WL.val ?_ ?_ (Runs.len rfl sl68) ?_; rfl; rfl) | (refine WL.val ?_ ?_ (Runs.len rfl sl86) ?_; rfl; rfl) | (refine WL.val ?_ ?_ (Runs.len rfl sl113) ?_; rfl; rfl) | (refine WL.pass ?_ ?_ ?_; rfl; rfl))
  refine WL.nil ?_
  repeat (first | refine AtExit.thenRet ?_ | refine AtExit.thenExit ?_ | refine AtExit.blockRet ?_ | refine AtExit.blockEnd ?_ | refine AtExit.blockExit ?_ | (refine AtExit.blockPast ?_ ?_; rfl))
  refine AtExit.go ?_
  refine WC.seq (WC.region ?_)
  repeat (first | (refine WL.val ?_ ?_ (Runs.move rfl) ?_; rfl; rfl) | (refine WL.val ?_ ?_ (Runs.assign rfl) ?_; rfl; rfl) | (refine WL.val ?_ ?_ (Runs.extract rfl rfl) ?_; rfl; rfl) | (refine WL.val ?_ ?_ (Runs.nilCheck rfl) ?_; rfl; rfl) | (refine WL.val ?_ ?_ (Runs.pickT rfl rfl) ?_; rfl; rfl) | (refine WL.val ?_ ?_ (Runs.pickF rfl rfl) ?_; rfl; rfl) | (refine WL.val ?_ ?_ (Runs.len rfl sl22) ?_; rfl; rfl) | (refine WL.val ?_ ?_ (Runs.len rfl sl23) ?_; rfl; rfl) | (refine WL.val ?_ ?_ (Runs.len rfl sl27) ?_; rfl; rfl) | (refine WL.val ?_ ?_ (Runs.len rfl sl28) ?_; rfl; rfl) | (refine WL.val ?_ ?_ (Runs.len rfl sl39) ?_; rfl; rfl) | (refine WL.val ?_ ?_ (Runs.len rfl sl64) ?_; rfl; rfl) | (refine WL.val ?_ ?_ (Runs.len rfl sl68) ?_; rfl; rfl) | (refine WL.val ?_ ?_ (Runs.len rfl sl86) ?_; rfl; rfl) | (refine WL.val ?_ ?_ (Runs.len rfl sl113) ?_; rfl; rfl) | (refine WL.pass ?_ ?_ ?_; rfl; rfl))
  refine WL.val rfl rfl (Runs.sub rfl rfl (r := (n : Int)) (wI (by omega) (by omega) (by omega))) ?_
  refine WL.val rfl rfl (Runs.idx1 rfl rfl Yba.underlying28 sz42 rfl (by omega)) ?_
  refine WL.val rfl rfl (Runs.load rfl na42 (own_cell hown (get_pv ht))) ?_
  repeat (first | (refine WL.val ?_ ?_ (Runs.move rfl) ?_; rfl; rfl) | (refine WL.val ?_ ?_ (Runs.assign rfl) ?_; rfl; rfl) | (refine WL.val ?_ ?_ (Runs.extract rfl rfl) ?_; rfl; rfl) | (refine WL.val ?_ ?_ (Runs.nilCheck rfl) ?_; rfl; rfl) | (refine WL.val ?_ ?_ (Runs.pickT rfl rfl) ?_; rfl; rfl) | (refine WL.val ?_ ?_ (Runs.pickF rfl rfl) ?_; rfl; rfl) | (refine WL.val ?_ ?_ (Runs.len rfl sl22) ?_; rfl; rfl) | (refine WL.val ?_ ?_ (Runs.len rfl sl23) ?_; rfl; rfl) | (refine WL.val ?_ ?_ (Runs.len rfl sl27) ?_; rfl; rfl) | (refine WL.val ?_ ?_ (Runs.len rfl sl28) ?_; rfl; rfl) | (refine WL.val ?_ ?_ (Runs.len rfl sl39) ?_; rfl; rfl) | (refine WL.val ?_ ?_ (Runs.len rfl sl64) ?_; rfl; rfl) | (refine WL.val ?_ ?_ (Runs.len rfl sl68) ?_; rfl; rfl) | (refine WL.val ?_ ?_ (Runs.len rfl sl86) ?_; rfl; rfl) | (refine WL.val ?_ ?_ (Runs.len rfl sl113) ?_; rfl; rfl) | (refine WL.pass ?_ ?_ ?_; rfl; rfl))
  refine WL.nil ?_
  repeat (first | refine AtExit.thenRet ?_ | refine AtExit.thenExit ?_ | refine AtExit.blockRet ?_ | refine AtExit.blockEnd ?_ | refine AtExit.blockExit ?_ | (refine AtExit.blockPast ?_ ?_; rfl))
  refine AtExit.go ?_
  refine WC.seq (WC.region ?_)
  repeat (first | (refine WL.val ?_ ?_ (Runs.move rfl) ?_; rfl; rfl) | (refine WL.val ?_ ?_ (Runs.assign rfl) ?_; rfl; rfl) | (refine WL.val ?_ ?_ (Runs.extract rfl rfl) ?_; rfl; rfl) | (refine WL.val ?_ ?_ (Runs.nilCheck rfl) ?_; rfl; rfl) | (refine WL.val ?_ ?_ (Runs.pickT rfl rfl) ?_; rfl; rfl) | (refine WL.val ?_ ?_ (Runs.pickF rfl rfl) ?_; rfl; rfl) | (refine WL.val ?_ ?_ (Runs.len rfl sl22) ?_; rfl; rfl) | (refine WL.val ?_ ?_ (Runs.len rfl sl23) ?_; rfl; rfl) | (refine WL.val ?_ ?_ (Runs.len rfl sl27) ?_; rfl; rfl) | (refine WL.val ?_ ?_ (Runs.len rfl sl28) ?_; rfl; rfl) | (refine WL.val ?_ ?_ (Runs.len rfl sl39) ?_; rfl; rfl) | (refine WL.val ?_ ?_ (Runs.len rfl sl64) ?_; rfl; rfl) | (refine WL.val ?_ ?_ (Runs.len rfl sl68) ?_; rfl; rfl) | (refine WL.val ?_ ?_ (Runs.len rfl sl86) ?_; rfl; rfl) | (refine WL.val ?_ ?_ (Runs.len rfl sl113) ?_; rfl; rfl) | (refine WL.pass ?_ ?_ ?_; rfl; rfl))
  refine WL.val rfl rfl (Runs.sub rfl rfl (r := (n : Int)) (wI (by omega) (by omega) (by omega))) ?_
  refine WL.val rfl rfl (Runs.idx1 rfl rfl Yba.underlying28 sz42 rfl (by omega)) ?_
  refine WL.skip rfl (RunsS.store rfl rfl rfl sz42 (own_cell hown (get_pv ht)) (own_frozen hown _)) ?_
  refine WL.nil ?_
  repeat (first | refine AtExit.thenRet ?_ | refine AtExit.thenExit ?_ | refine AtExit.blockRet ?_ | refine AtExit.blockEnd ?_ | refine AtExit.blockExit ?_ | (refine AtExit.blockPast ?_ ?_; rfl))
  refine AtExit.go ?_
  have o1 := own_set hown n (.pointer none)
  have q1 : (w.setCell ⟨g, 0 + n, none⟩ (.pointer none)).heap[C]? = some (.cells #[.int .i64 now, .slice (some ⟨g, 0, none⟩) (n + 1) cap, .int .u64 (st : Int)] 30 (0, 0)) := heap_set_other h.clk (fun e => hgC e.symm)
  have t1 : ∀ i u, ts[i]? = some u → TimerAt (w.setCell ⟨g, 0 + n, none⟩ (.pointer none)) u (inf u).due (inf u).start i (inf u).fire := fun i u hu => heap_set_other (h.tim i u hu) (fun e => hgt (e ▸ List.mem_of_getElem? hu))
  have c1 : Chg w (w.setCell ⟨g, 0 + n, none⟩ (.pointer none)) (fun k => k = C ∨ k = g) := Chg.set _ _ _ (Or.inr rfl)
  generalize w.setCell ⟨g, 0 + n, none⟩ (.pointer none) = w1 at o1 q1 t1 c1 ⊢
  refine WC.seq (WC.region ?_)
  repeat (first | (refine WL.val ?_ ?_ (Runs.move rfl) ?_; rfl; rfl) | (refine WL.val ?_ ?_ (Runs.assign rfl) ?_; rfl; rfl) | (refine WL.val ?_ ?_ (Runs.extract rfl rfl) ?_; rfl; rfl) | (refine WL.val ?_ ?_ (Runs.nilCheck rfl) ?_; rfl; rfl) | (refine WL.val ?_ ?_ (Runs.pickT rfl rfl) ?_; rfl; rfl) | (refine WL.val ?_ ?_ (Runs.pickF rfl rfl) ?_; rfl; rfl) | (refine WL.val ?_ ?_ (Runs.len rfl sl22) ?_; rfl; rfl) | (refine WL.val ?_ ?_ (Runs.len rfl sl23) ?_; rfl; rfl) | (refine WL.val ?_ ?_ (Runs.len rfl sl27) ?_; rfl; rfl) | (refine WL.val ?_ ?_ (Runs.len rfl sl28) ?_; rfl; rfl) | (refine WL.val ?_ ?_ (Runs.len rfl sl39) ?_; rfl; rfl) | (refine WL.val ?_ ?_ (Runs.len rfl sl64) ?_; rfl; rfl) | (refine WL.val ?_ ?_ (Runs.len rfl sl68) ?_; rfl; rfl) | (refine WL.val ?_ ?_ (Runs.len rfl sl86) ?_; rfl; rfl) | (refine WL.val ?_ ?_ (Runs.len rfl sl113) ?_; rfl; rfl) | (refine WL.pass ?_ ?_ ?_; rfl; rfl))
  refine WL.val rfl rfl (Runs.sub rfl rfl (r := (n : Int)) (wI (by omega) (by omega) (by omega))) ?_
  refine WL.val rfl rfl (Runs.sliceH rfl rfl (by omega)) ?_
  repeat (first | (refine WL.val ?_ ?_ (Runs.move rfl) ?_; rfl; rfl) | (refine WL.val ?_ ?_ (Runs.assign rfl) ?_; rfl; rfl) | (refine WL.val ?_ ?_ (Runs.extract rfl rfl) ?_; rfl; rfl) | (refine WL.val ?_ ?_ (Runs.nilCheck rfl) ?_; rfl; rfl) | (refine WL.val ?_ ?_ (Runs.pickT rfl rfl) ?_; rfl; rfl) | (refine WL.val ?_ ?_ (Runs.pickF rfl rfl) ?_; rfl; rfl) | (refine WL.val ?_ ?_ (Runs.len rfl sl22) ?_; rfl; rfl) | (refine WL.val ?_ ?_ (Runs.len rfl sl23) ?_; rfl; rfl) | (refine WL.val ?_ ?_ (Runs.len rfl sl27) ?_; rfl; rfl) | (refine WL.val ?_ ?_ (Runs.len rfl sl28) ?_; rfl; rfl) | (refine WL.val ?_ ?_ (Runs.len rfl sl39) ?_; rfl; rfl) | (refine WL.val ?_ ?_ (Runs.len rfl sl64) ?_; rfl; rfl) | (refine WL.val ?_ ?_ (Runs.len rfl sl68) ?_; rfl; rfl) | (refine WL.val ?_ ?_ (Runs.len rfl sl86) ?_; rfl; rfl) | (refine WL.val ?_ ?_ (Runs.len rfl sl113) ?_; rfl; rfl) | (refine WL.pass ?_ ?_ ?_; rfl; rfl))
  refine WL.skip rfl (RunsS.store rfl rfl rfl sz28 (u := .slice (some ⟨g, 0, none⟩) (n + 1) cap) (by rw [cell_of q1]; rfl) (frozen_of q1)) ?_
  refine WL.nil ?_
  repeat (first | refine AtExit.thenRet ?_ | refine AtExit.thenExit ?_ | refine AtExit.blockRet ?_ | refine AtExit.blockEnd ?_ | refine AtExit.blockExit ?_ | (refine AtExit.blockPast ?_ ?_; rfl))
  refine AtExit.go ?_
  have o2 := own_pop o1
  have hset : ((ts.map pv).set n (.pointer none)).take n = (ts.take n).map pv := by
    rw [List.map_take, List.take_set, List.set_eq_of_length_le (by simp; omega)]
  rw [hset] at o2
  have nC : ∀ k, k ≠ C → (w1.setCell ⟨C, 0 + 1, none⟩ (.slice (some ⟨g, 0, none⟩) n cap)).heap[k]? = w1.heap[k]? := fun k hk => Below.heap_setCell _ _ _ _ hk
  have hln : (ts.take n).length = n := by rw [List.length_take]; omega
  have hq : HQ N inf C now st (w1.setCell ⟨C, 0 + 1, none⟩ (.slice (some ⟨g, 0, none⟩) n cap)) (.slice (some ⟨g, 0, none⟩) n cap) (ts.take n) := by
    refine ⟨heap_set q1, ?_, fun i u hu => ?_, h.nd.sublist (List.take_sublist _ _)⟩
    · rw [hln]
      exact own_same o2 fun k hk => nC k (by cases hk; exact hgC)
    · rw [List.getElem?_take] at hu
      split at hu
      · exact (nC u (fun e => h.clk_ne (e ▸ List.mem_of_getElem? hu))).trans (t1 i u hu)
      · cases hu
  have c2 := c1.trans (Chg.set w1 ⟨C, 0 + 1, none⟩ (.slice (some ⟨g, 0, none⟩) n cap) (Or.inl rfl))
  refine WC.seq (WC.region ?_)
  repeat (first | (refine WL.val ?_ ?_ (Runs.move rfl) ?_; rfl; rfl) | (refine WL.val ?_ ?_ (Runs.assign rfl) ?_; rfl; rfl) | (refine WL.val ?_ ?_ (Runs.extract rfl rfl) ?_; rfl; rfl) | (refine WL.val ?_ ?_ (Runs.nilCheck rfl) ?_; rfl; rfl) | (refine WL.val ?_ ?_ (Runs.pickT rfl rfl) ?_; rfl; rfl) | (refine WL.val ?_ ?_ (Runs.pickF rfl rfl) ?_; rfl; rfl) | (refine WL.val ?_ ?_ (Runs.len rfl sl22) ?_; rfl; rfl) | (refine WL.val ?_ ?_ (Runs.len rfl sl23) ?_; rfl; rfl) | (refine WL.val ?_ ?_ (Runs.len rfl sl27) ?_; rfl; rfl) | (refine WL.val ?_ ?_ (Runs.len rfl sl28) ?_; rfl; rfl) | (refine WL.val ?_ ?_ (Runs.len rfl sl39) ?_; rfl; rfl) | (refine WL.val ?_ ?_ (Runs.len rfl sl64) ?_; rfl; rfl) | (refine WL.val ?_ ?_ (Runs.len rfl sl68) ?_; rfl; rfl) | (refine WL.val ?_ ?_ (Runs.len rfl sl86) ?_; rfl; rfl) | (refine WL.val ?_ ?_ (Runs.len rfl sl113) ?_; rfl; rfl) | (refine WL.pass ?_ ?_ ?_; rfl; rfl))
  refine WL.val rfl rfl (Runs.mkIface rfl (by kernel_rfl)) ?_
  repeat (first | (refine WL.val ?_ ?_ (Runs.move rfl) ?_; rfl; rfl) | (refine WL.val ?_ ?_ (Runs.assign rfl) ?_; rfl; rfl) | (refine WL.val ?_ ?_ (Runs.extract rfl rfl) ?_; rfl; rfl) | (refine WL.val ?_ ?_ (Runs.nilCheck rfl) ?_; rfl; rfl) | (refine WL.val ?_ ?_ (Runs.pickT rfl rfl) ?_; rfl; rfl) | (refine WL.val ?_ ?_ (Runs.pickF rfl rfl) ?_; rfl; rfl) | (refine WL.val ?_ ?_ (Runs.len rfl sl22) ?_; rfl; rfl) | (refine WL.val ?_ ?_ (Runs.len rfl sl23) ?_; rfl; rfl) | (refine WL.val ?_ ?_ (Runs.len rfl sl27) ?_; rfl; rfl) | (refine WL.val ?_ ?_ (Runs.len rfl sl28) ?_; rfl; rfl) | (refine WL.val ?_ ?_ (Runs.len rfl sl39) ?_; rfl; rfl) | (refine WL.val ?_ ?_ (Runs.len rfl sl64) ?_; rfl; rfl) | (refine WL.val ?_ ?_ (Runs.len rfl sl68) ?_; rfl; rfl) | (refine WL.val ?_ ?_ (Runs.len rfl sl86) ?_; rfl; rfl) | (refine WL.val ?_ ?_ (Runs.len rfl sl113) ?_; rfl; rfl) | (refine WL.pass ?_ ?_ ?_; rfl; rfl))
  refine WL.nil ?_
  repeat (first | refine AtExit.thenRet ?_ | refine AtExit.thenExit ?_ | refine AtExit.blockRet ?_ | refine AtExit.blockEnd ?_ | refine AtExit.blockExit ?_ | (refine AtExit.blockPast ?_ ?_; rfl))
  refine AtExit.go ?_
  refine WC.ret ?_
  repeat (first | refine AtExit.thenRet ?_ | refine AtExit.thenExit ?_ | refine AtExit.blockRet ?_ | refine AtExit.blockEnd ?_ | refine AtExit.blockExit ?_ | (refine AtExit.blockPast ?_ ?_; rfl))
  exact post1 rfl rfl ⟨⟨_, rfl⟩, hq, c2⟩

theorem remove_any {w : World} {g n cap : Nat} {ts : List Nat} (hn5 : n ≤ 5000) (h : HQ N inf C now st w (.slice (some ⟨g, 0, none⟩) n cap) ts) (hl : ts.length = n) (i t : Nat) (hi : ts[i]? = some t) :
    Calls Yba.prog 19 #[.iface 75 (.pointer (some ⟨C, 0 + 1, none⟩)), .int .i64 (i : Int)] w fun e w' => (∃ r, e = .returned r) ∧ ∃ ts', HQ N inf C now st w' (.slice (some ⟨g, 0, none⟩) (n - 1) cap) ts' ∧ (ts' ++ [t]).Perm ts ∧ Chg w w' (fun k => k = C ∨ k = g ∨ k ∈ ts) ∧ ∃ j, TimerAt w' t (inf t).due (inf t).start j (inf t).fire := by
  have hin : i < n := by rw [← hl]; exact (List.getElem?_eq_some_iff.1 hi).1
  refine calls_of Yba.func19 rfl Yba.ntmps19 rfl ?_
  refine WC.seq (WC.region ?_)
  repeat (first | (refine WL.val ?_ ?_ (Runs.move rfl) ?_; rfl; rfl) | (refine WL.val ?_ ?_ (Runs.assign rfl) ?_; rfl; rfl) | (refine WL.val ?_ ?_ (Runs.extract rfl rfl) ?_; rfl; rfl) | (refine WL.val ?_ ?_ (Runs.nilCheck rfl) ?_; rfl; rfl) | (refine WL.val ?_ ?_ (Runs.pickT rfl rfl) ?_; rfl; rfl) | (refine WL.val ?_ ?_ (Runs.pickF rfl rfl) ?_; rfl; rfl) | (refine WL.val ?_ ?_ (Runs.len rfl sl22) ?_; rfl; rfl) | (refine WL.val ?_ ?_ (Runs.len rfl sl23) ?_; rfl; rfl) | (refine WL.val ?_ ?_ (Runs.len rfl sl27) ?_; rfl; rfl) | (refine WL.val ?_ ?_ (Runs.len rfl sl28) ?_; rfl; rfl) | (refine WL.val ?_ ?_ (Runs.len rfl sl39) ?_; rfl; rfl) | (refine WL.val ?_ ?_ (Runs.len rfl sl64) ?_; rfl; rfl) | (refine WL.val ?_ ?_ (Runs.len rfl sl68) ?_; rfl; rfl) | (refine WL.val ?_ ?_ (Runs.len rfl sl86) ?_; rfl; rfl) | (refine WL.val ?_ ?_ (Runs.len rfl sl113) ?_; rfl; rfl) | (refine WL.pass ?_ ?_ ?_; rfl; rfl))
  refine WL.nil ?_
  repeat (first | refine AtExit.thenRet ?_ | refine AtExit.thenExit ?_ | refine AtExit.blockRet ?_ | refine AtExit.blockEnd ?_ | refine AtExit.blockExit ?_ | (refine AtExit.blockPast ?_ ?_; rfl))
  refine AtExit.go ?_
  refine WC.seq (WC.region ?_)
  repeat (first | (refine WL.val ?_ ?_ (Runs.move rfl) ?_; rfl; rfl) | (refine WL.val ?_ ?_ (Runs.assign rfl) ?_; rfl; rfl) | (refine WL.val ?_ ?_ (Runs.extract rfl rfl) ?_; rfl; rfl) | (refine WL.val ?_ ?_ (Runs.nilCheck rfl) ?_; rfl; rfl) | (refine WL.val ?_ ?_ (Runs.pickT rfl rfl) ?_; rfl; rfl) | (refine WL.val ?_ ?_ (Runs.pickF rfl rfl) ?_; rfl; rfl) | (refine WL.val ?_ ?_ (Runs.len rfl sl22) ?_; rfl; rfl) | (refine WL.val ?_ ?_ (Runs.len rfl sl23) ?_; rfl; rfl) | (refine WL.val ?_ ?_ (Runs.len rfl sl27) ?_; rfl; rfl) | (refine WL.val ?_ ?_ (Runs.len rfl sl28) ?_; rfl; rfl) | (refine WL.val ?_ ?_ (Runs.len rfl sl39) ?_; rfl; rfl) | (refine WL.val ?_ ?_ (Runs.len rfl sl64) ?_; rfl; rfl) | (refine WL.val ?_ ?_ (Runs.len rfl sl68) ?_; rfl; rfl) | (refine WL.val ?_ ?_ (Runs.len rfl sl86) ?_; rfl; rfl) | (refine WL.val ?_ ?_ (Runs.len rfl sl113) ?_; rfl; rfl) | (refine WL.pass ?_ ?_ ?_; rfl; rfl))
  refine WL.call rfl rfl (RunsC.method rfl rfl (m_len C w h.c1) en63) (len_any _ _ _ w) ?_
  rintro e w1 ⟨rfl, rfl⟩
  refine ⟨_, rfl, ?_⟩
  refine WL.val rfl rfl (Runs.sub rfl rfl (r := ((n - 1 : Nat) : Int)) (wI (by omega) (by omega) (by omega))) ?_
  repeat (first | (refine WL.val ?_ ?_ (Runs.move rfl) ?_; rfl; rfl) | (refine WL.val ?_ ?_ (Runs.assign rfl) ?_; rfl; rfl) | (refine WL.val ?_ ?_ (Runs.extract rfl rfl) ?_; rfl; rfl) | (refine WL.val ?_ ?_ (Runs.nilCheck rfl) ?_; rfl; rfl) | (refine WL.val ?_ ?_ (Runs.pickT rfl rfl) ?_; rfl; rfl) | (refine WL.val ?_ ?_ (Runs.pickF rfl rfl) ?_; rfl; rfl) | (refine WL.val ?_ ?_ (Runs.len rfl sl22) ?_; rfl; rfl) | (refine WL.val ?_ ?_ (Runs.len rfl sl23) ?_; rfl; rfl) | (refine WL.val ?_ ?_ (Runs.len rfl sl27) ?_; rfl; rfl) | (refine WL.val ?_ ?_ (Runs.len rfl sl28) ?_; rfl; rfl) | (refine WL.val ?_ ?_ (Runs.len rfl sl39) ?_; rfl; rfl) | (refine WL.val ?_ ?_ (Runs.len rfl sl64) ?_; rfl; rfl) | (refine WL.val ?_ ?_ (Runs.len rfl sl68) ?_; rfl; rfl) | (refine WL.val ?_ ?_ (Runs.len rfl sl86) ?_; rfl; rfl) | (refine WL.val ?_ ?_ (Runs.len rfl sl113) ?_; rfl; rfl) | (refine WL.pass ?_ ?_ ?_; rfl; rfl))
  refine WL.nil ?_
  repeat (first | refine AtExit.thenRet ?_ | refine AtExit.thenExit ?_ | refine AtExit.blockRet ?_ | refine AtExit.blockEnd ?_ | refine AtExit.blockExit ?_ | (refine AtExit.blockPast ?_ ?_; rfl))
  refine AtExit.go ?_
  refine WC.cut (α := List Nat) (fun _ => [(0, .iface 75 (.pointer (some ⟨C, 0 + 1, none⟩)))]) (fun ts' w' => Moved N inf C now st g n cap w1 w' ts ts' ∧ ts'[n - 1]? = some t) ?_ ?_
  · refine WC.seq (WC.region ?_)
    repeat (first | (refine WL.val ?_ ?_ (Runs.move rfl) ?_; rfl; rfl) | (refine WL.val ?_ ?_ (Runs.assign rfl) ?_; rfl; rfl) | (refine WL.val ?_ ?_ (Runs.extract rfl rfl) ?_; rfl; rfl) | (refine WL.val ?_ ?_ (Runs.nilCheck rfl) ?_; rfl; rfl) | (refine WL.val ?_ ?_ (Runs.pickT rfl rfl) ?_; rfl; rfl) | (refine WL.val ?_ ?_ (Runs.pickF rfl rfl) ?_; rfl; rfl) | (refine WL.val ?_ ?_ (Runs.len rfl sl22) ?_; rfl; rfl) | (refine WL.val ?_ ?_ (Runs.len rfl sl23) ?_; rfl; rfl) | (refine WL.val ?_ ?_ (Runs.len rfl sl27) ?_; rfl; rfl) | (refine WL.val ?_ ?_ (Runs.len rfl sl28) ?_; rfl; rfl) | (refine WL.val ?_ ?_ (Runs.len rfl sl39) ?_; rfl; rfl) | (refine WL.val ?_ ?_ (Runs.len rfl sl64) ?_; rfl; rfl) | (refine WL.val ?_ ?_ (Runs.len rfl sl68) ?_; rfl; rfl) | (refine WL.val ?_ ?_ (Runs.len rfl sl86) ?_; rfl; rfl) | (refine WL.val ?_ ?_ (Runs.len rfl sl113) ?_; rfl; rfl) | (refine WL.pass ?_ ?_ ?_; rfl; rfl))
    by_cases hne : n - 1 = i
    · refine WL.val rfl rfl (Runs.neq rfl rfl (r := false) (by rw [hne]; simp)) ?_
      refine WL.nil ?_
      repeat (first | refine AtExit.thenRet ?_ | refine AtExit.thenExit ?_ | refine AtExit.blockRet ?_ | refine AtExit.blockEnd ?_ | refine AtExit.blockExit ?_ | (refine AtExit.blockPast ?_ ?_; rfl))
      refine AtExit.go ?_
      refine WC.condF rfl ?_
      refine WC.skip ?_
      repeat (first | refine AtExit.thenRet ?_ | refine AtExit.thenExit ?_ | refine AtExit.blockRet ?_ | refine AtExit.blockEnd ?_ | refine AtExit.blockExit ?_ | (refine AtExit.blockPast ?_ ?_; rfl))
      refine AtExit.inv fun av hv => ⟨ts, hv.sub (by repeat (first | exact Sub.nil _ | refine Sub.cons rfl ?_)), ⟨h, List.Perm.refl _, Chg.refl _⟩, by rw [hne]; exact hi⟩
    · refine WL.val rfl rfl (Runs.neq rfl rfl (r := true) (by rw [dfalse (by omega)]; rfl)) ?_
      refine WL.nil ?_
      repeat (first | refine AtExit.thenRet ?_ | refine AtExit.thenExit ?_ | refine AtExit.blockRet ?_ | refine AtExit.blockEnd ?_ | refine AtExit.blockExit ?_ | (refine AtExit.blockPast ?_ ?_; rfl))
      refine AtExit.go ?_
      refine WC.condT rfl ?_
      refine WC.seq (WC.region ?_)
      repeat (first | (refine WL.val ?_ ?_ (Runs.move rfl) ?_; rfl; rfl) | (refine WL.val ?_ ?_ (Runs.assign rfl) ?_; rfl; rfl) | (refine WL.val ?_ ?_ (Runs.extract rfl rfl) ?_; rfl; rfl) | (refine WL.val ?_ ?_ (Runs.nilCheck rfl) ?_; rfl; rfl) | (refine WL.val ?_ ?_ (Runs.pickT rfl rfl) ?_; rfl; rfl) | (refine WL.val ?_ ?_ (Runs.pickF rfl rfl) ?_; rfl; rfl) | (refine WL.val ?_ ?_ (Runs.len rfl sl22) ?_; rfl; rfl) | (refine WL.val ?_ ?_ (Runs.len rfl sl23) ?_; rfl; rfl) | (refine WL.val ?_ ?_ (Runs.len rfl sl27) ?_; rfl; rfl) | (refine WL.val ?_ ?_ (Runs.len rfl sl28) ?_; rfl; rfl) | (refine WL.val ?_ ?_ (Runs.len rfl sl39) ?_; rfl; rfl) | (refine WL.val ?_ ?_ (Runs.len rfl sl64) ?_; rfl; rfl) | (refine WL.val ?_ ?_ (Runs.len rfl sl68) ?_; rfl; rfl) | (refine WL.val ?_ ?_ (Runs.len rfl sl86) ?_; rfl; rfl) | (refine WL.val ?_ ?_ (Runs.len rfl sl113) ?_; rfl; rfl) | (refine WL.pass ?_ ?_ ?_; rfl; rfl))
      refine WL.call rfl rfl (RunsC.method rfl rfl (m_swap C w1 h.c1) en65) (swapN h hl i (n - 1) hin (by omega) (by omega)) ?_
      rintro e w2 ⟨rfl, ⟨ts2, hq2, hp2, _, _, he2⟩, hc2⟩
      refine ⟨_, rfl, ?_⟩
      have hM2 : Moved N inf C now st g n cap w1 w2 ts ts2 := ⟨hq2, hp2, hc2⟩
      refine WL.nil ?_
      repeat (first | refine AtExit.thenRet ?_ | refine AtExit.thenExit ?_ | refine AtExit.blockRet ?_ | refine AtExit.blockEnd ?_ | refine AtExit.blockExit ?_ | (refine AtExit.blockPast ?_ ?_; rfl))
      refine AtExit.go ?_
      refine WC.seq (WC.region ?_)
      repeat (first | (refine WL.val ?_ ?_ (Runs.move rfl) ?_; rfl; rfl) | (refine WL.val ?_ ?_ (Runs.assign rfl) ?_; rfl; rfl) | (refine WL.val ?_ ?_ (Runs.extract rfl rfl) ?_; rfl; rfl) | (refine WL.val ?_ ?_ (Runs.nilCheck rfl) ?_; rfl; rfl) | (refine WL.val ?_ ?_ (Runs.pickT rfl rfl) ?_; rfl; rfl) | (refine WL.val ?_ ?_ (Runs.pickF rfl rfl) ?_; rfl; rfl) | (refine WL.val ?_ ?_ (Runs.len rfl sl22) ?_; rfl; rfl) | (refine WL.val ?_ ?_ (Runs.len rfl sl23) ?_; rfl; rfl) | (refine WL.val ?_ ?_ (Runs.len rfl sl27) ?_; rfl; rfl) | (refine WL.val ?_ ?_ (Runs.len rfl sl28) ?_; rfl; rfl) | (refine WL.val ?_ ?_ (Runs.len rfl sl39) ?_; rfl; rfl) | (refine WL.val ?_ ?_ (Runs.len rfl sl64) ?_; rfl; rfl) | (refine WL.val ?_ ?_ (Runs.len rfl sl68) ?_; rfl; rfl) | (refine WL.val ?_ ?_ (Runs.len rfl sl86) ?_; rfl; rfl) | (refine WL.val ?_ ?_ (Runs.len rfl sl113) ?_; rfl; rfl) | (refine WL.pass ?_ ?_ ?_; rfl; rfl))
      refine WL.call rfl rfl (RunsC.call rfl en25) (down_any hn5 hM2.hq (hM2.len hl) i (n - 1) (by omega) (by omega)) ?_
      rintro e w3 ⟨⟨b, rfl⟩, ts3, hM3, hk3⟩
      refine ⟨_, rfl, ?_⟩
      have hM4 := hM2.step hM3.hq hM3.perm hM3.chg
      have ht3 : ts3[n - 1]? = some t := by rw [hk3 (n - 1) (Nat.le_refl _), he2]; exact hi
      refine WL.val rfl rfl (Runs.not rfl) ?_
      refine WL.nil ?_
      repeat (first | refine AtExit.thenRet ?_ | refine AtExit.thenExit ?_ | refine AtExit.blockRet ?_ | refine AtExit.blockEnd ?_ | refine AtExit.blockExit ?_ | (refine AtExit.blockPast ?_ ?_; rfl))
      refine AtExit.go ?_
      refine WC.split rfl (fun _ => ?_) (fun _ => ?_)
      · refine WC.region ?_
        repeat (first | (refine WL.val ?_ ?_ (Runs.move rfl) ?_; rfl; rfl) | (refine WL.val ?_ ?_ (Runs.assign rfl) ?_; rfl; rfl) | (refine WL.val ?_ ?_ (Runs.extract rfl rfl) ?_; rfl; rfl) | (refine WL.val ?_ ?_ (Runs.nilCheck rfl) ?_; rfl; rfl) | (refine WL.val ?_ ?_ (Runs.pickT rfl rfl) ?_; rfl; rfl) | (refine WL.val ?_ ?_ (Runs.pickF rfl rfl) ?_; rfl; rfl) | (refine WL.val ?_ ?_ (Runs.len rfl sl22) ?_; rfl; rfl) | (refine WL.val ?_ ?_ (Runs.len rfl sl23) ?_; rfl; rfl) | (refine WL.val ?_ ?_ (Runs.len rfl sl27) ?_; rfl; rfl) | (refine WL.val ?_ ?_ (Runs.len rfl sl28) ?_; rfl; rfl) | (refine WL.val ?_ ?_ (Runs.len rfl sl39) ?_; rfl; rfl) | (refine WL.val ?_ ?_ (Runs.len rfl sl64) ?_; rfl; rfl) | (refine WL.val ?_ ?_ (Runs.len rfl sl68) ?_; rfl; rfl) | (refine WL.val ?_ ?_ (Runs.len rfl sl86) ?_; rfl; rfl) | (refine WL.val ?_ ?_ (Runs.len rfl sl113) ?_; rfl; rfl) | (refine WL.pass ?_ ?_ ?_; rfl; rfl))
        refine WL.call rfl rfl (RunsC.call rfl en13) (up_any hn5 hM4.hq (hM4.len hl) i (by omega)) ?_
        rintro e w5 ⟨rfl, ts5, hM5, hk5⟩
        refine ⟨_, rfl, ?_⟩
        refine WL.nil ?_
        repeat (first | refine AtExit.thenRet ?_ | refine AtExit.thenExit ?_ | refine AtExit.blockRet ?_ | refine AtExit.blockEnd ?_ | refine AtExit.blockExit ?_ | (refine AtExit.blockPast ?_ ?_; rfl))
        refine AtExit.inv fun av hv => ⟨ts5, hv.sub (by repeat (first | exact Sub.nil _ | refine Sub.cons rfl ?_)), hM4.step hM5.hq hM5.perm hM5.chg, by rw [hk5 (n - 1) (by omega)]; exact ht3⟩
      · refine WC.skip ?_
        repeat (first | refine AtExit.thenRet ?_ | refine AtExit.thenExit ?_ | refine AtExit.blockRet ?_ | refine AtExit.blockEnd ?_ | refine AtExit.blockExit ?_ | (refine AtExit.blockPast ?_ ?_; rfl))
        refine AtExit.inv fun av hv => ⟨ts3, hv.sub (by repeat (first | exact Sub.nil _ | refine Sub.cons rfl ?_)), hM4, ht3⟩
  rintro ts4 w4 ⟨hM, ht4⟩
  obtain ⟨m, rfl⟩ : ∃ m, n = m + 1 := ⟨n - 1, by omega⟩
  have hl4 := hM.len hl
  refine WC.seq (WC.region ?_)
  repeat (first | (refine WL.val ?_ ?_ (Runs.move rfl) ?_; rfl; rfl) | (refine WL.val ?_ ?_ (Runs.assign rfl) ?_; rfl; rfl) | (refine WL.val ?_ ?_ (Runs.extract rfl rfl) ?_; rfl; rfl) | (refine WL.val ?_ ?_ (Runs.nilCheck rfl) ?_; rfl; rfl) | (refine WL.val ?_ ?_ (Runs.pickT rfl rfl) ?_; rfl; rfl) | (refine WL.val ?_ ?_ (Runs.pickF rfl rfl) ?_; rfl; rfl) | (refine WL.val ?_ ?_ (Runs.len rfl sl22) ?_; rfl; rfl) | (refine WL.val ?_ ?_ (Runs.len rfl sl23) ?_; rfl; rfl) | (refine WL.val ?_ ?_ (Runs.len rfl sl27) ?_; rfl; rfl) | (refine WL.val ?_ ?_ (Runs.len rfl sl28) ?_; rfl; rfl) | (refine WL.val ?_ ?_ (Runs.len rfl sl39) ?_; rfl; rfl) | (refine WL.val ?_ ?_ (Runs.len rfl sl64) ?_; rfl; rfl) | (refine WL.val ?_ ?_ (Runs.len rfl sl68) ?_; rfl; rfl) | (refine WL.val ?_ ?_ (Runs.len rfl sl86) ?_; rfl; rfl) | (refine WL.val ?_ ?_ (Runs.len rfl sl113) ?_; rfl; rfl) | (refine WL.pass ?_ ?_ ?_; rfl; rfl))
  refine WL.call rfl rfl (RunsC.method rfl rfl (m_pop C w4) en71) (pop_any (by omega) hM.hq hl4) ?_
  rintro e w5 ⟨⟨r, rfl⟩, hq5, hc5⟩
  refine ⟨_, rfl, ?_⟩
  repeat (first | (refine WL.val ?_ ?_ (Runs.move rfl) ?_; rfl; rfl) | (refine WL.val ?_ ?_ (Runs.assign rfl) ?_; rfl; rfl) | (refine WL.val ?_ ?_ (Runs.extract rfl rfl) ?_; rfl; rfl) | (refine WL.val ?_ ?_ (Runs.nilCheck rfl) ?_; rfl; rfl) | (refine WL.val ?_ ?_ (Runs.pickT rfl rfl) ?_; rfl; rfl) | (refine WL.val ?_ ?_ (Runs.pickF rfl rfl) ?_; rfl; rfl) | (refine WL.val ?_ ?_ (Runs.len rfl sl22) ?_; rfl; rfl) | (refine WL.val ?_ ?_ (Runs.len rfl sl23) ?_; rfl; rfl) | (refine WL.val ?_ ?_ (Runs.len rfl sl27) ?_; rfl; rfl) | (refine WL.val ?_ ?_ (Runs.len rfl sl28) ?_; rfl; rfl) | (refine WL.val ?_ ?_ (Runs.len rfl sl39) ?_; rfl; rfl) | (refine WL.val ?_ ?_ (Runs.len rfl sl64) ?_; rfl; rfl) | (refine WL.val ?_ ?_ (Runs.len rfl sl68) ?_; rfl; rfl) | (refine WL.val ?_ ?_ (Runs.len rfl sl86) ?_; rfl; rfl) | (refine WL.val ?_ ?_ (Runs.len rfl sl113) ?_; rfl; rfl) | (refine WL.pass ?_ ?_ ?_; rfl; rfl))
  refine WL.nil ?_
  repeat (first | refine AtExit.thenRet ?_ | refine AtExit.thenExit ?_ | refine AtExit.blockRet ?_ | refine AtExit.blockEnd ?_ | refine AtExit.blockExit ?_ | (refine AtExit.blockPast ?_ ?_; rfl))
  refine AtExit.go ?_
  refine WC.ret ?_
  repeat (first | refine AtExit.thenRet ?_ | refine AtExit.thenExit ?_ | refine AtExit.blockRet ?_ | refine AtExit.blockEnd ?_ | refine AtExit.blockExit ?_ | (refine AtExit.blockPast ?_ ?_; rfl))
  have e4 : ts4.take m ++ [t] = ts4 := by
    have ht4' : ts4[m]? = some t := ht4
    have := List.take_add_one (l := ts4) (i := m)
    rw [ht4', List.take_of_length_le (by omega)] at this
    exact this.symm
  have htm : ts4[m]? = some t := ht4
  have hmem : t ∈ ts4 := List.mem_of_getElem? htm
  have hJ : TimerAt w5 t (inf t).due (inf t).start m (inf t).fire := hc5.heap (fun hk => by
      rcases hk with h1 | h1
      · exact hM.hq.clk_ne (h1 ▸ hmem)
      · exact (hM.hq.row_ne (g := g) rfl).2.1 (h1 ▸ hmem)) (hM.hq.tim m t htm)
  refine post1 rfl rfl ⟨⟨_, rfl⟩, ts4.take m, hq5, by rw [e4]; exact hM.perm, ?_, m, hJ⟩
  refine Chg.trans (b := w4) (hM.chg.mono fun k _ hk => Or.inr hk) (hc5.mono fun k _ hk => ?_)
  rcases hk with h1 | h1
  · exact Or.inl h1
  · exact Or.inr (Or.inl h1)

def upd (inf : Nat → TI) (t : Nat) (x : TI) : Nat → TI := fun k => if k = t then x else inf k

theorem HQ.upd {w : World} {v : Value} {ts : List Nat} (h : HQ N inf C now st w v ts) {t : Nat} (ht : t ∉ ts) (x : TI) : HQ N (upd inf t x) C now st w v ts :=
  ⟨h.clk, h.own, fun i u hu => by
    have hne : u ≠ t := fun e => ht (e ▸ List.mem_of_getElem? hu)
    unfold Ybulkgfdm.upd
    rw [if_neg hne]
    exact h.tim i u hu, h.nd⟩

set_option maxRecDepth 4000 in
theorem start_any {w : World} {v : Value} {ts : List Nat} (h : HQ N inf C now st w v ts) (hN : N ≤ w.heap.size) (hl : ts.length < 4999) (d : Int) (fire : Value) (hd0 : 0 ≤ d) (hd1 : d < 1125899906842624) (hn0 : 0 ≤ now) (hn1 : now < 1125899906842624) (hst : st < 5000)
    (hb : Yba.prog.built 73 [(0, .int .i64 (now + d)), (1, .int .u64 ((st + 1 : Nat) : Int)), (3, fire)] = some #[.int .i64 (now + d), .int .u64 ((st + 1 : Nat) : Int), .int .i64 0, fire]) :
    Calls Yba.prog 6 #[.pointer (some ⟨C, 0, none⟩), .int .i64 d, fire] w fun e w' => e = .returned (pv w.heap.size) ∧ w.heap.size < w'.heap.size ∧ ∃ v' ts', HQ N (upd inf w.heap.size ⟨now + d, st + 1, fire⟩) C now (st + 1) w' v' ts' ∧ ts'.Perm (ts ++ [w.heap.size]) ∧
      Chg w w' (fun k => k = C ∨ v.ownBlock = some k ∨ k ∈ ts) ∧ (∀ k, v'.ownBlock = some k → v.ownBlock = some k ∨ w.heap.size ≤ k) := by
  obtain ⟨T, hTs⟩ : ∃ T, T = w.heap.size := ⟨_, rfl⟩
  rw [← hTs]
  have hTC : T ≠ C := by rw [hTs]; have := lt_of_heap h.clk; omega
  have hTt : T ∉ ts := fun hm => by
    obtain ⟨i, hi, e⟩ := List.getElem_of_mem hm
    have := lt_of_heap (h.tim i T (by rw [List.getElem?_eq_getElem hi, e]))
    omega
  refine calls_of Yba.func6 rfl Yba.ntmps6 rfl ?_
  refine WC.seq (WC.region ?_)
  repeat (first | (refine WL.val ?_ ?_ (Runs.move rfl) ?_; rfl; rfl) | (refine WL.val ?_ ?_ (Runs.assign rfl) ?_; rfl; rfl) | (refine WL.val ?_ ?_ (Runs.extract rfl rfl) ?_; rfl; rfl) | (refine WL.val ?_ ?_ (Runs.nilCheck rfl) ?_; rfl; rfl) | (refine WL.val ?_ ?_ (Runs.pickT rfl rfl) ?_; rfl; rfl) | (refine WL.val ?_ ?_ (Runs.pickF rfl rfl) ?_; rfl; rfl) | (refine WL.val ?_ ?_ (Runs.len rfl sl22) ?_; rfl; rfl) | (refine WL.val ?_ ?_ (Runs.len rfl sl23) ?_; rfl; rfl) | (refine WL.val ?_ ?_ (Runs.len rfl sl27) ?_; rfl; rfl) | (refine WL.val ?_ ?_ (Runs.len rfl sl28) ?_; rfl; rfl) | (refine WL.val ?_ ?_ (Runs.len rfl sl39) ?_; rfl; rfl) | (refine WL.val ?_ ?_ (Runs.len rfl sl64) ?_; rfl; rfl) | (refine WL.val ?_ ?_ (Runs.len rfl sl68) ?_; rfl; rfl) | (refine WL.val ?_ ?_ (Runs.len rfl sl86) ?_; rfl; rfl) | (refine WL.val ?_ ?_ (Runs.len rfl sl113) ?_; rfl; rfl) | (refine WL.pass ?_ ?_ ?_; rfl; rfl))
  refine WL.nil ?_
  repeat (first | refine AtExit.thenRet ?_ | refine AtExit.thenExit ?_ | refine AtExit.blockRet ?_ | refine AtExit.blockEnd ?_ | refine AtExit.blockExit ?_ | (refine AtExit.blockPast ?_ ?_; rfl))
  refine AtExit.go ?_
  refine WC.seq (WC.region ?_)
  repeat (first | (refine WL.val ?_ ?_ (Runs.move rfl) ?_; rfl; rfl) | (refine WL.val ?_ ?_ (Runs.assign rfl) ?_; rfl; rfl) | (refine WL.val ?_ ?_ (Runs.extract rfl rfl) ?_; rfl; rfl) | (refine WL.val ?_ ?_ (Runs.nilCheck rfl) ?_; rfl; rfl) | (refine WL.val ?_ ?_ (Runs.pickT rfl rfl) ?_; rfl; rfl) | (refine WL.val ?_ ?_ (Runs.pickF rfl rfl) ?_; rfl; rfl) | (refine WL.val ?_ ?_ (Runs.len rfl sl22) ?_; rfl; rfl) | (refine WL.val ?_ ?_ (Runs.len rfl sl23) ?_; rfl; rfl) | (refine WL.val ?_ ?_ (Runs.len rfl sl27) ?_; rfl; rfl) | (refine WL.val ?_ ?_ (Runs.len rfl sl28) ?_; rfl; rfl) | (refine WL.val ?_ ?_ (Runs.len rfl sl39) ?_; rfl; rfl) | (refine WL.val ?_ ?_ (Runs.len rfl sl64) ?_; rfl; rfl) | (refine WL.val ?_ ?_ (Runs.len rfl sl68) ?_; rfl; rfl) | (refine WL.val ?_ ?_ (Runs.len rfl sl86) ?_; rfl; rfl) | (refine WL.val ?_ ?_ (Runs.len rfl sl113) ?_; rfl; rfl) | (refine WL.pass ?_ ?_ ?_; rfl; rfl))
  refine WL.val rfl rfl (Runs.fld rfl fl30_0) ?_
  refine WL.val rfl rfl (Runs.load rfl na24 (v := .int .i64 now) (by rw [cell_of h.clk]; rfl)) ?_
  repeat (first | (refine WL.val ?_ ?_ (Runs.move rfl) ?_; rfl; rfl) | (refine WL.val ?_ ?_ (Runs.assign rfl) ?_; rfl; rfl) | (refine WL.val ?_ ?_ (Runs.extract rfl rfl) ?_; rfl; rfl) | (refine WL.val ?_ ?_ (Runs.nilCheck rfl) ?_; rfl; rfl) | (refine WL.val ?_ ?_ (Runs.pickT rfl rfl) ?_; rfl; rfl) | (refine WL.val ?_ ?_ (Runs.pickF rfl rfl) ?_; rfl; rfl) | (refine WL.val ?_ ?_ (Runs.len rfl sl22) ?_; rfl; rfl) | (refine WL.val ?_ ?_ (Runs.len rfl sl23) ?_; rfl; rfl) | (refine WL.val ?_ ?_ (Runs.len rfl sl27) ?_; rfl; rfl) | (refine WL.val ?_ ?_ (Runs.len rfl sl28) ?_; rfl; rfl) | (refine WL.val ?_ ?_ (Runs.len rfl sl39) ?_; rfl; rfl) | (refine WL.val ?_ ?_ (Runs.len rfl sl64) ?_; rfl; rfl) | (refine WL.val ?_ ?_ (Runs.len rfl sl68) ?_; rfl; rfl) | (refine WL.val ?_ ?_ (Runs.len rfl sl86) ?_; rfl; rfl) | (refine WL.val ?_ ?_ (Runs.len rfl sl113) ?_; rfl; rfl) | (refine WL.pass ?_ ?_ ?_; rfl; rfl))
  refine WL.val rfl rfl (Runs.add rfl rfl (r := now + d) (wI rfl (by omega) (by omega))) ?_
  repeat (first | (refine WL.val ?_ ?_ (Runs.move rfl) ?_; rfl; rfl) | (refine WL.val ?_ ?_ (Runs.assign rfl) ?_; rfl; rfl) | (refine WL.val ?_ ?_ (Runs.extract rfl rfl) ?_; rfl; rfl) | (refine WL.val ?_ ?_ (Runs.nilCheck rfl) ?_; rfl; rfl) | (refine WL.val ?_ ?_ (Runs.pickT rfl rfl) ?_; rfl; rfl) | (refine WL.val ?_ ?_ (Runs.pickF rfl rfl) ?_; rfl; rfl) | (refine WL.val ?_ ?_ (Runs.len rfl sl22) ?_; rfl; rfl) | (refine WL.val ?_ ?_ (Runs.len rfl sl23) ?_; rfl; rfl) | (refine WL.val ?_ ?_ (Runs.len rfl sl27) ?_; rfl; rfl) | (refine WL.val ?_ ?_ (Runs.len rfl sl28) ?_; rfl; rfl) | (refine WL.val ?_ ?_ (Runs.len rfl sl39) ?_; rfl; rfl) | (refine WL.val ?_ ?_ (Runs.len rfl sl64) ?_; rfl; rfl) | (refine WL.val ?_ ?_ (Runs.len rfl sl68) ?_; rfl; rfl) | (refine WL.val ?_ ?_ (Runs.len rfl sl86) ?_; rfl; rfl) | (refine WL.val ?_ ?_ (Runs.len rfl sl113) ?_; rfl; rfl) | (refine WL.pass ?_ ?_ ?_; rfl; rfl))
  refine WL.nil ?_
  repeat (first | refine AtExit.thenRet ?_ | refine AtExit.thenExit ?_ | refine AtExit.blockRet ?_ | refine AtExit.blockEnd ?_ | refine AtExit.blockExit ?_ | (refine AtExit.blockPast ?_ ?_; rfl))
  refine AtExit.go ?_
  refine WC.seq ?_
  refine WC.seq (WC.region ?_)
  repeat (first | (refine WL.val ?_ ?_ (Runs.move rfl) ?_; rfl; rfl) | (refine WL.val ?_ ?_ (Runs.assign rfl) ?_; rfl; rfl) | (refine WL.val ?_ ?_ (Runs.extract rfl rfl) ?_; rfl; rfl) | (refine WL.val ?_ ?_ (Runs.nilCheck rfl) ?_; rfl; rfl) | (refine WL.val ?_ ?_ (Runs.pickT rfl rfl) ?_; rfl; rfl) | (refine WL.val ?_ ?_ (Runs.pickF rfl rfl) ?_; rfl; rfl) | (refine WL.val ?_ ?_ (Runs.len rfl sl22) ?_; rfl; rfl) | (refine WL.val ?_ ?_ (Runs.len rfl sl23) ?_; rfl; rfl) | (refine WL.val ?_ ?_ (Runs.len rfl sl27) ?_; rfl; rfl) | (refine WL.val ?_ ?_ (Runs.len rfl sl28) ?_; rfl; rfl) | (refine WL.val ?_ ?_ (Runs.len rfl sl39) ?_; rfl; rfl) | (refine WL.val ?_ ?_ (Runs.len rfl sl64) ?_; rfl; rfl) | (refine WL.val ?_ ?_ (Runs.len rfl sl68) ?_; rfl; rfl) | (refine WL.val ?_ ?_ (Runs.len rfl sl86) ?_; rfl; rfl) | (refine WL.val ?_ ?_ (Runs.len rfl sl113) ?_; rfl; rfl) | (refine WL.pass ?_ ?_ ?_; rfl; rfl))
  refine WL.val rfl rfl (Runs.fld rfl fl30_0) ?_
  refine WL.val rfl rfl (Runs.load rfl na24 (v := .int .i64 now) (by rw [cell_of h.clk]; rfl)) ?_
  repeat (first | (refine WL.val ?_ ?_ (Runs.move rfl) ?_; rfl; rfl) | (refine WL.val ?_ ?_ (Runs.assign rfl) ?_; rfl; rfl) | (refine WL.val ?_ ?_ (Runs.extract rfl rfl) ?_; rfl; rfl) | (refine WL.val ?_ ?_ (Runs.nilCheck rfl) ?_; rfl; rfl) | (refine WL.val ?_ ?_ (Runs.pickT rfl rfl) ?_; rfl; rfl) | (refine WL.val ?_ ?_ (Runs.pickF rfl rfl) ?_; rfl; rfl) | (refine WL.val ?_ ?_ (Runs.len rfl sl22) ?_; rfl; rfl) | (refine WL.val ?_ ?_ (Runs.len rfl sl23) ?_; rfl; rfl) | (refine WL.val ?_ ?_ (Runs.len rfl sl27) ?_; rfl; rfl) | (refine WL.val ?_ ?_ (Runs.len rfl sl28) ?_; rfl; rfl) | (refine WL.val ?_ ?_ (Runs.len rfl sl39) ?_; rfl; rfl) | (refine WL.val ?_ ?_ (Runs.len rfl sl64) ?_; rfl; rfl) | (refine WL.val ?_ ?_ (Runs.len rfl sl68) ?_; rfl; rfl) | (refine WL.val ?_ ?_ (Runs.len rfl sl86) ?_; rfl; rfl) | (refine WL.val ?_ ?_ (Runs.len rfl sl113) ?_; rfl; rfl) | (refine WL.pass ?_ ?_ ?_; rfl; rfl))
  refine WL.val rfl rfl (Runs.sub rfl rfl (r := 9223372036854775807 - d) (wI rfl (by omega) (by omega))) ?_
  refine WL.val rfl rfl (Runs.gtr rfl rfl (r := false) (dfalse (by omega))) ?_
  refine WL.nil ?_
  repeat (first | refine AtExit.thenRet ?_ | refine AtExit.thenExit ?_ | refine AtExit.blockRet ?_ | refine AtExit.blockEnd ?_ | refine AtExit.blockExit ?_ | (refine AtExit.blockPast ?_ ?_; rfl))
  refine AtExit.go ?_
  refine WC.condF rfl ?_
  refine WC.skip ?_
  repeat (first | refine AtExit.thenRet ?_ | refine AtExit.thenExit ?_ | refine AtExit.blockRet ?_ | refine AtExit.blockEnd ?_ | refine AtExit.blockExit ?_ | (refine AtExit.blockPast ?_ ?_; rfl))
  refine AtExit.go ?_
  refine WC.seq (WC.region ?_)
  repeat (first | (refine WL.val ?_ ?_ (Runs.move rfl) ?_; rfl; rfl) | (refine WL.val ?_ ?_ (Runs.assign rfl) ?_; rfl; rfl) | (refine WL.val ?_ ?_ (Runs.extract rfl rfl) ?_; rfl; rfl) | (refine WL.val ?_ ?_ (Runs.nilCheck rfl) ?_; rfl; rfl) | (refine WL.val ?_ ?_ (Runs.pickT rfl rfl) ?_; rfl; rfl) | (refine WL.val ?_ ?_ (Runs.pickF rfl rfl) ?_; rfl; rfl) | (refine WL.val ?_ ?_ (Runs.len rfl sl22) ?_; rfl; rfl) | (refine WL.val ?_ ?_ (Runs.len rfl sl23) ?_; rfl; rfl) | (refine WL.val ?_ ?_ (Runs.len rfl sl27) ?_; rfl; rfl) | (refine WL.val ?_ ?_ (Runs.len rfl sl28) ?_; rfl; rfl) | (refine WL.val ?_ ?_ (Runs.len rfl sl39) ?_; rfl; rfl) | (refine WL.val ?_ ?_ (Runs.len rfl sl64) ?_; rfl; rfl) | (refine WL.val ?_ ?_ (Runs.len rfl sl68) ?_; rfl; rfl) | (refine WL.val ?_ ?_ (Runs.len rfl sl86) ?_; rfl; rfl) | (refine WL.val ?_ ?_ (Runs.len rfl sl113) ?_; rfl; rfl) | (refine WL.pass ?_ ?_ ?_; rfl; rfl))
  refine WL.val rfl rfl (Runs.fld rfl fl30_2) ?_
  refine WL.val rfl rfl (Runs.load rfl na25 (v := .int .u64 (st : Int)) (by rw [cell_of h.clk]; rfl)) ?_
  refine WL.val rfl rfl (Runs.add rfl rfl (r := ((st + 1 : Nat) : Int)) (by rw [wU] <;> omega)) ?_
  repeat (first | (refine WL.val ?_ ?_ (Runs.move rfl) ?_; rfl; rfl) | (refine WL.val ?_ ?_ (Runs.assign rfl) ?_; rfl; rfl) | (refine WL.val ?_ ?_ (Runs.extract rfl rfl) ?_; rfl; rfl) | (refine WL.val ?_ ?_ (Runs.nilCheck rfl) ?_; rfl; rfl) | (refine WL.val ?_ ?_ (Runs.pickT rfl rfl) ?_; rfl; rfl) | (refine WL.val ?_ ?_ (Runs.pickF rfl rfl) ?_; rfl; rfl) | (refine WL.val ?_ ?_ (Runs.len rfl sl22) ?_; rfl; rfl) | (refine WL.val ?_ ?_ (Runs.len rfl sl23) ?_; rfl; rfl) | (refine WL.val ?_ ?_ (Runs.len rfl sl27) ?_; rfl; rfl) | (refine WL.val ?_ ?_ (Runs.len rfl sl28) ?_; rfl; rfl) | (refine WL.val ?_ ?_ (Runs.len rfl sl39) ?_; rfl; rfl) | (refine WL.val ?_ ?_ (Runs.len rfl sl64) ?_; rfl; rfl) | (refine WL.val ?_ ?_ (Runs.len rfl sl68) ?_; rfl; rfl) | (refine WL.val ?_ ?_ (Runs.len rfl sl86) ?_; rfl; rfl) | (refine WL.val ?_ ?_ (Runs.len rfl sl113) ?_; rfl; rfl) | (refine WL.pass ?_ ?_ ?_; rfl; rfl))
  refine WL.val rfl rfl (Runs.fld rfl fl30_2) ?_
  refine WL.skip rfl (RunsS.store rfl rfl rfl sz25 (u := .int .u64 (st : Int)) (by rw [cell_of h.clk]; rfl) (frozen_of h.clk)) ?_
  refine WL.nil ?_
  repeat (first | refine AtExit.thenRet ?_ | refine AtExit.thenExit ?_ | refine AtExit.blockRet ?_ | refine AtExit.blockEnd ?_ | refine AtExit.blockExit ?_ | (refine AtExit.blockPast ?_ ?_; rfl))
  refine AtExit.go ?_
  have q1 : (w.setCell ⟨C, 0 + 2, none⟩ (.int .u64 ((st + 1 : Nat) : Int))).heap[C]? = some (.cells #[.int .i64 now, v, .int .u64 ((st + 1 : Nat) : Int)] 30 (0, 0)) := heap_set h.clk
  have h1 : HQ N inf C now (st + 1) (w.setCell ⟨C, 0 + 2, none⟩ (.int .u64 ((st + 1 : Nat) : Int))) v ts :=
    ⟨q1, own_same h.own fun k hk => Below.heap_setCell _ _ _ _ (h.row_ne hk).1, fun i u hu => heap_set_other (h.tim i u hu) (fun (e : u = C) => h.clk_ne (e ▸ List.mem_of_getElem? hu)), h.nd⟩
  have c1 : Chg w (w.setCell ⟨C, 0 + 2, none⟩ (.int .u64 ((st + 1 : Nat) : Int))) (fun k => k = C ∨ v.ownBlock = some k ∨ k ∈ ts) := Chg.set _ _ _ (Or.inl rfl)
  have z1 : (w.setCell ⟨C, 0 + 2, none⟩ (.int .u64 ((st + 1 : Nat) : Int))).heap.size = T := by rw [size_set, hTs]
  generalize w.setCell ⟨C, 0 + 2, none⟩ (.int .u64 ((st + 1 : Nat) : Int)) = w1 at q1 h1 c1 z1 ⊢
  refine WC.seq (WC.region ?_)
  repeat (first | (refine WL.val ?_ ?_ (Runs.move rfl) ?_; rfl; rfl) | (refine WL.val ?_ ?_ (Runs.assign rfl) ?_; rfl; rfl) | (refine WL.val ?_ ?_ (Runs.extract rfl rfl) ?_; rfl; rfl) | (refine WL.val ?_ ?_ (Runs.nilCheck rfl) ?_; rfl; rfl) | (refine WL.val ?_ ?_ (Runs.pickT rfl rfl) ?_; rfl; rfl) | (refine WL.val ?_ ?_ (Runs.pickF rfl rfl) ?_; rfl; rfl) | (refine WL.val ?_ ?_ (Runs.len rfl sl22) ?_; rfl; rfl) | (refine WL.val ?_ ?_ (Runs.len rfl sl23) ?_; rfl; rfl) | (refine WL.val ?_ ?_ (Runs.len rfl sl27) ?_; rfl; rfl) | (refine WL.val ?_ ?_ (Runs.len rfl sl28) ?_; rfl; rfl) | (refine WL.val ?_ ?_ (Runs.len rfl sl39) ?_; rfl; rfl) | (refine WL.val ?_ ?_ (Runs.len rfl sl64) ?_; rfl; rfl) | (refine WL.val ?_ ?_ (Runs.len rfl sl68) ?_; rfl; rfl) | (refine WL.val ?_ ?_ (Runs.len rfl sl86) ?_; rfl; rfl) | (refine WL.val ?_ ?_ (Runs.len rfl sl113) ?_; rfl; rfl) | (refine WL.pass ?_ ?_ ?_; rfl; rfl))
  refine WL.val rfl rfl (Runs.fld rfl fl30_2) ?_
  refine WL.val rfl rfl (Runs.load rfl na25 (v := .int .u64 ((st + 1 : Nat) : Int)) (by rw [cell_of q1]; rfl)) ?_
  repeat (first | (refine WL.val ?_ ?_ (Runs.move rfl) ?_; rfl; rfl) | (refine WL.val ?_ ?_ (Runs.assign rfl) ?_; rfl; rfl) | (refine WL.val ?_ ?_ (Runs.extract rfl rfl) ?_; rfl; rfl) | (refine WL.val ?_ ?_ (Runs.nilCheck rfl) ?_; rfl; rfl) | (refine WL.val ?_ ?_ (Runs.pickT rfl rfl) ?_; rfl; rfl) | (refine WL.val ?_ ?_ (Runs.pickF rfl rfl) ?_; rfl; rfl) | (refine WL.val ?_ ?_ (Runs.len rfl sl22) ?_; rfl; rfl) | (refine WL.val ?_ ?_ (Runs.len rfl sl23) ?_; rfl; rfl) | (refine WL.val ?_ ?_ (Runs.len rfl sl27) ?_; rfl; rfl) | (refine WL.val ?_ ?_ (Runs.len rfl sl28) ?_; rfl; rfl) | (refine WL.val ?_ ?_ (Runs.len rfl sl39) ?_; rfl; rfl) | (refine WL.val ?_ ?_ (Runs.len rfl sl64) ?_; rfl; rfl) | (refine WL.val ?_ ?_ (Runs.len rfl sl68) ?_; rfl; rfl) | (refine WL.val ?_ ?_ (Runs.len rfl sl86) ?_; rfl; rfl) | (refine WL.val ?_ ?_ (Runs.len rfl sl113) ?_; rfl; rfl) | (refine WL.pass ?_ ?_ ?_; rfl; rfl))
  refine WL.val rfl rfl (Runs.build rfl hb) ?_
  refine WL.val rfl rfl (Runs.box rfl) ?_
  repeat (first | (refine WL.val ?_ ?_ (Runs.move rfl) ?_; rfl; rfl) | (refine WL.val ?_ ?_ (Runs.assign rfl) ?_; rfl; rfl) | (refine WL.val ?_ ?_ (Runs.extract rfl rfl) ?_; rfl; rfl) | (refine WL.val ?_ ?_ (Runs.nilCheck rfl) ?_; rfl; rfl) | (refine WL.val ?_ ?_ (Runs.pickT rfl rfl) ?_; rfl; rfl) | (refine WL.val ?_ ?_ (Runs.pickF rfl rfl) ?_; rfl; rfl) | (refine WL.val ?_ ?_ (Runs.len rfl sl22) ?_; rfl; rfl) | (refine WL.val ?_ ?_ (Runs.len rfl sl23) ?_; rfl; rfl) | (refine WL.val ?_ ?_ (Runs.len rfl sl27) ?_; rfl; rfl) | (refine WL.val ?_ ?_ (Runs.len rfl sl28) ?_; rfl; rfl) | (refine WL.val ?_ ?_ (Runs.len rfl sl39) ?_; rfl; rfl) | (refine WL.val ?_ ?_ (Runs.len rfl sl64) ?_; rfl; rfl) | (refine WL.val ?_ ?_ (Runs.len rfl sl68) ?_; rfl; rfl) | (refine WL.val ?_ ?_ (Runs.len rfl sl86) ?_; rfl; rfl) | (refine WL.val ?_ ?_ (Runs.len rfl sl113) ?_; rfl; rfl) | (refine WL.pass ?_ ?_ ?_; rfl; rfl))
  refine WL.nil ?_
  repeat (first | refine AtExit.thenRet ?_ | refine AtExit.thenExit ?_ | refine AtExit.blockRet ?_ | refine AtExit.blockEnd ?_ | refine AtExit.blockExit ?_ | (refine AtExit.blockPast ?_ ?_; rfl))
  refine AtExit.go ?_
  rw [z1]
  have hb2 := below_new w1 (.cells (Value.agg #[.int .i64 (now + d), .int .u64 ((st + 1 : Nat) : Int), .int .i64 0, fire]).cells 73) (Nat.le_refl _)
  have hT2 := heap_new w1 (.cells (Value.agg #[.int .i64 (now + d), .int .u64 ((st + 1 : Nat) : Int), .int .i64 0, fire]).cells 73)
  have z2 : (w1.alloc (.cells (Value.agg #[.int .i64 (now + d), .int .u64 ((st + 1 : Nat) : Int), .int .i64 0, fire]).cells 73)).heap.size = T + 1 := by rw [size_new, z1]
  have h2 := (h1.below hb2).upd hTt ⟨now + d, st + 1, fire⟩
  have c2 : Chg w (w1.alloc (.cells (Value.agg #[.int .i64 (now + d), .int .u64 ((st + 1 : Nat) : Int), .int .i64 0, fire]).cells 73)) (fun k => k = C ∨ v.ownBlock = some k ∨ k ∈ ts) := c1.trans (Chg.of_below hb2)
  rw [z1] at hT2
  generalize w1.alloc _ = w2 at hT2 z2 h2 c2 ⊢
  have hT3 : TimerAt w2 T (upd inf T ⟨now + d, st + 1, fire⟩ T).due (upd inf T ⟨now + d, st + 1, fire⟩ T).start 0 (upd inf T ⟨now + d, st + 1, fire⟩ T).fire := by
    have e : upd inf T ⟨now + d, st + 1, fire⟩ T = ⟨now + d, st + 1, fire⟩ := by unfold Ybulkgfdm.upd; rw [if_pos rfl]
    rw [e]; exact hT2
  refine WC.seq (WC.region ?_)
  repeat (first | (refine WL.val ?_ ?_ (Runs.move rfl) ?_; rfl; rfl) | (refine WL.val ?_ ?_ (Runs.assign rfl) ?_; rfl; rfl) | (refine WL.val ?_ ?_ (Runs.extract rfl rfl) ?_; rfl; rfl) | (refine WL.val ?_ ?_ (Runs.nilCheck rfl) ?_; rfl; rfl) | (refine WL.val ?_ ?_ (Runs.pickT rfl rfl) ?_; rfl; rfl) | (refine WL.val ?_ ?_ (Runs.pickF rfl rfl) ?_; rfl; rfl) | (refine WL.val ?_ ?_ (Runs.len rfl sl22) ?_; rfl; rfl) | (refine WL.val ?_ ?_ (Runs.len rfl sl23) ?_; rfl; rfl) | (refine WL.val ?_ ?_ (Runs.len rfl sl27) ?_; rfl; rfl) | (refine WL.val ?_ ?_ (Runs.len rfl sl28) ?_; rfl; rfl) | (refine WL.val ?_ ?_ (Runs.len rfl sl39) ?_; rfl; rfl) | (refine WL.val ?_ ?_ (Runs.len rfl sl64) ?_; rfl; rfl) | (refine WL.val ?_ ?_ (Runs.len rfl sl68) ?_; rfl; rfl) | (refine WL.val ?_ ?_ (Runs.len rfl sl86) ?_; rfl; rfl) | (refine WL.val ?_ ?_ (Runs.len rfl sl113) ?_; rfl; rfl) | (refine WL.pass ?_ ?_ ?_; rfl; rfl))
  refine WL.val rfl rfl (Runs.fld rfl fl30_1) ?_
  refine WL.val rfl rfl (Runs.mkIface rfl (by kernel_rfl)) ?_
  repeat (first | (refine WL.val ?_ ?_ (Runs.move rfl) ?_; rfl; rfl) | (refine WL.val ?_ ?_ (Runs.assign rfl) ?_; rfl; rfl) | (refine WL.val ?_ ?_ (Runs.extract rfl rfl) ?_; rfl; rfl) | (refine WL.val ?_ ?_ (Runs.nilCheck rfl) ?_; rfl; rfl) | (refine WL.val ?_ ?_ (Runs.pickT rfl rfl) ?_; rfl; rfl) | (refine WL.val ?_ ?_ (Runs.pickF rfl rfl) ?_; rfl; rfl) | (refine WL.val ?_ ?_ (Runs.len rfl sl22) ?_; rfl; rfl) | (refine WL.val ?_ ?_ (Runs.len rfl sl23) ?_; rfl; rfl) | (refine WL.val ?_ ?_ (Runs.len rfl sl27) ?_; rfl; rfl) | (refine WL.val ?_ ?_ (Runs.len rfl sl28) ?_; rfl; rfl) | (refine WL.val ?_ ?_ (Runs.len rfl sl39) ?_; rfl; rfl) | (refine WL.val ?_ ?_ (Runs.len rfl sl64) ?_; rfl; rfl) | (refine WL.val ?_ ?_ (Runs.len rfl sl68) ?_; rfl; rfl) | (refine WL.val ?_ ?_ (Runs.len rfl sl86) ?_; rfl; rfl) | (refine WL.val ?_ ?_ (Runs.len rfl sl113) ?_; rfl; rfl) | (refine WL.pass ?_ ?_ ?_; rfl; rfl))
  refine WL.val rfl rfl (Runs.mkIface rfl (by kernel_rfl)) ?_
  refine WL.call rfl rfl (RunsC.call rfl en10) (heapPush_any h2 (by omega) hl T 0 hT3 hTt) ?_
  rintro e w3 ⟨rfl, v', ts', hq3, hp3, hc3, hloc3⟩
  refine ⟨_, rfl, ?_⟩
  refine WL.nil ?_
  repeat (first | refine AtExit.thenRet ?_ | refine AtExit.thenExit ?_ | refine AtExit.blockRet ?_ | refine AtExit.blockEnd ?_ | refine AtExit.blockExit ?_ | (refine AtExit.blockPast ?_ ?_; rfl))
  refine AtExit.go ?_
  refine WC.seq (WC.region ?_)
  repeat (first | (refine WL.val ?_ ?_ (Runs.move rfl) ?_; rfl; rfl) | (refine WL.val ?_ ?_ (Runs.assign rfl) ?_; rfl; rfl) | (refine WL.val ?_ ?_ (Runs.extract rfl rfl) ?_; rfl; rfl) | (refine WL.val ?_ ?_ (Runs.nilCheck rfl) ?_; rfl; rfl) | (refine WL.val ?_ ?_ (Runs.pickT rfl rfl) ?_; rfl; rfl) | (refine WL.val ?_ ?_ (Runs.pickF rfl rfl) ?_; rfl; rfl) | (refine WL.val ?_ ?_ (Runs.len rfl sl22) ?_; rfl; rfl) | (refine WL.val ?_ ?_ (Runs.len rfl sl23) ?_; rfl; rfl) | (refine WL.val ?_ ?_ (Runs.len rfl sl27) ?_; rfl; rfl) | (refine WL.val ?_ ?_ (Runs.len rfl sl28) ?_; rfl; rfl) | (refine WL.val ?_ ?_ (Runs.len rfl sl39) ?_; rfl; rfl) | (refine WL.val ?_ ?_ (Runs.len rfl sl64) ?_; rfl; rfl) | (refine WL.val ?_ ?_ (Runs.len rfl sl68) ?_; rfl; rfl) | (refine WL.val ?_ ?_ (Runs.len rfl sl86) ?_; rfl; rfl) | (refine WL.val ?_ ?_ (Runs.len rfl sl113) ?_; rfl; rfl) | (refine WL.pass ?_ ?_ ?_; rfl; rfl))
  refine WL.nil ?_
  repeat (first | refine AtExit.thenRet ?_ | refine AtExit.thenExit ?_ | refine AtExit.blockRet ?_ | refine AtExit.blockEnd ?_ | refine AtExit.blockExit ?_ | (refine AtExit.blockPast ?_ ?_; rfl))
  refine AtExit.go ?_
  refine WC.ret ?_
  repeat (first | refine AtExit.thenRet ?_ | refine AtExit.thenExit ?_ | refine AtExit.blockRet ?_ | refine AtExit.blockEnd ?_ | refine AtExit.blockExit ?_ | (refine AtExit.blockPast ?_ ?_; rfl))
  refine post1 rfl rfl ⟨rfl, by have := hc3.size; omega, v', ts', hq3, hp3, ?_, fun k hk => ?_⟩
  · have c3 : Chg w w3 (fun k => k = C ∨ v.ownBlock = some k ∨ k ∈ ts ∨ k = T) := Chg.trans (b := w2) (c2.mono fun k _ hk => by
      rcases hk with h1 | h1 | h1
      · exact Or.inl h1
      · exact Or.inr (Or.inl h1)
      · exact Or.inr (Or.inr (Or.inl h1))) (hc3.mono fun k _ hk => by
      rcases hk with h1 | h1 | h1 | h1
      · exact Or.inl h1
      · exact Or.inr (Or.inr (Or.inr h1))
      · exact Or.inr (Or.inl h1)
      · exact Or.inr (Or.inr (Or.inl h1)))
    exact c3.mono fun k hkl hk => by
      rcases hk with h1 | h1 | h1 | h1
      · exact Or.inl h1
      · exact Or.inr (Or.inl h1)
      · exact Or.inr (Or.inr h1)
      · omega
  · rcases hloc3 k hk with h1 | h1
    · exact Or.inl h1
    · exact Or.inr (by omega)

theorem stop_any {w : World} {g n cap : Nat} {ts : List Nat} (hn5 : n ≤ 5000) (h : HQ N inf C now st w (.slice (some ⟨g, 0, none⟩) n cap) ts) (hl : ts.length = n) (i t : Nat) (hi : ts[i]? = some t) :
    Calls Yba.prog 14 #[.pointer (some ⟨C, 0, none⟩), pv t] w fun e w' => e = .returned (.tuple #[]) ∧ ∃ ts', HQ N inf C now st w' (.slice (some ⟨g, 0, none⟩) (n - 1) cap) ts' ∧ (ts' ++ [t]).Perm ts ∧ Chg w w' (fun k => k = C ∨ k = g ∨ k ∈ ts) ∧ ∃ j, TimerAt w' t (inf t).due (inf t).start j (inf t).fire := by
  refine calls_of Yba.func14 rfl Yba.ntmps14 rfl ?_
  have hb0 : Below w.heap.size w w.drew := below_drawn _ _ _
  have h0 := h.below hb0
  refine WC.still 8 mixed (by kernel_rfl) ?_
  repeat (first | (refine SL.val ?_ ?_ (Runs.move rfl) ?_; rfl; rfl) | (refine SL.val ?_ ?_ (Runs.assign rfl) ?_; rfl; rfl) | (refine SL.val ?_ ?_ (Runs.extract rfl rfl) ?_; rfl; rfl) | (refine SL.val ?_ ?_ (Runs.nilCheck rfl) ?_; rfl; rfl) | (refine SL.val ?_ ?_ (Runs.pickT rfl rfl) ?_; rfl; rfl) | (refine SL.val ?_ ?_ (Runs.pickF rfl rfl) ?_; rfl; rfl) | (refine SL.val ?_ ?_ (Runs.len rfl sl22) ?_; rfl; rfl) | (refine SL.val ?_ ?_ (Runs.len rfl sl23) ?_; rfl; rfl) | (refine SL.val ?_ ?_ (Runs.len rfl sl27) ?_; rfl; rfl) | (refine SL.val ?_ ?_ (Runs.len rfl sl28) ?_; rfl; rfl) | (refine SL.val ?_ ?_ (Runs.len rfl sl39) ?_; rfl; rfl) | (refine SL.val ?_ ?_ (Runs.len rfl sl64) ?_; rfl; rfl) | (refine SL.val ?_ ?_ (Runs.len rfl sl68) ?_; rfl; rfl) | (refine SL.val ?_ ?_ (Runs.len rfl sl86) ?_; rfl; rfl) | (refine SL.val ?_ ?_ (Runs.len rfl sl113) ?_; rfl; rfl) | (refine SL.pass ?_ ?_ ?_; rfl; rfl))
  refine SL.val rfl rfl (Runs.fld rfl fl30_1) ?_
  refine SL.val rfl rfl (Runs.mkIface rfl (by kernel_rfl)) ?_
  repeat (first | (refine SL.val ?_ ?_ (Runs.move rfl) ?_; rfl; rfl) | (refine SL.val ?_ ?_ (Runs.assign rfl) ?_; rfl; rfl) | (refine SL.val ?_ ?_ (Runs.extract rfl rfl) ?_; rfl; rfl) | (refine SL.val ?_ ?_ (Runs.nilCheck rfl) ?_; rfl; rfl) | (refine SL.val ?_ ?_ (Runs.pickT rfl rfl) ?_; rfl; rfl) | (refine SL.val ?_ ?_ (Runs.pickF rfl rfl) ?_; rfl; rfl) | (refine SL.val ?_ ?_ (Runs.len rfl sl22) ?_; rfl; rfl) | (refine SL.val ?_ ?_ (Runs.len rfl sl23) ?_; rfl; rfl) | (refine SL.val ?_ ?_ (Runs.len rfl sl27) ?_; rfl; rfl) | (refine SL.val ?_ ?_ (Runs.len rfl sl28) ?_; rfl; rfl) | (refine SL.val ?_ ?_ (Runs.len rfl sl39) ?_; rfl; rfl) | (refine SL.val ?_ ?_ (Runs.len rfl sl64) ?_; rfl; rfl) | (refine SL.val ?_ ?_ (Runs.len rfl sl68) ?_; rfl; rfl) | (refine SL.val ?_ ?_ (Runs.len rfl sl86) ?_; rfl; rfl) | (refine SL.val ?_ ?_ (Runs.len rfl sl113) ?_; rfl; rfl) | (refine SL.pass ?_ ?_ ?_; rfl; rfl))
  refine SL.val rfl rfl (Runs.fld rfl fl73_2) ?_
  refine SL.val rfl rfl (Runs.load rfl na3 (v := .int .i64 (i : Int)) (by rw [cell_of (h0.tim i t hi)]; rfl)) ?_
  refine SL.nil ?_
  refine WL.call rfl rfl (RunsC.call rfl en19) (remove_any hn5 h0 hl i t hi) ?_
  rintro e w2 ⟨⟨r, rfl⟩, ts', hq, hp, hc, hj⟩
  refine ⟨_, rfl, ?_⟩
  refine WL.nil ?_
  exact post0e rfl ⟨rfl, ts', hq, hp, (Chg.of_below hb0).trans hc, hj⟩

theorem left_any {w : World} (t : Nat) (d : Int) (s i : Nat) (f : Value) (hT : TimerAt w t d s i f) (v : Value) (hK : w.heap[C]? = some (.cells #[.int .i64 now, v, .int .u64 (st : Int)] 30 (0, 0))) (h0 : -9223372036854775808 ≤ d - now) (h1 : d - now ≤ 9223372036854775807) :
    Calls Yba.prog 18 #[.pointer (some ⟨C, 0, none⟩), pv t] w fun e w' => e = .returned (.int .i64 (d - now)) ∧ Below w.heap.size w w' := by
  refine calls_of Yba.func18 rfl Yba.ntmps18 rfl ?_
  refine WC.seq (WC.region ?_)
  repeat (first | (refine WL.val ?_ ?_ (Runs.move rfl) ?_; rfl; rfl) | (refine WL.val ?_ ?_ (Runs.assign rfl) ?_; rfl; rfl) | (refine WL.val ?_ ?_ (Runs.extract rfl rfl) ?_; rfl; rfl) | (refine WL.val ?_ ?_ (Runs.nilCheck rfl) ?_; rfl; rfl) | (refine WL.val ?_ ?_ (Runs.pickT rfl rfl) ?_; rfl; rfl) | (refine WL.val ?_ ?_ (Runs.pickF rfl rfl) ?_; rfl; rfl) | (refine WL.val ?_ ?_ (Runs.len rfl sl22) ?_; rfl; rfl) | (refine WL.val ?_ ?_ (Runs.len rfl sl23) ?_; rfl; rfl) | (refine WL.val ?_ ?_ (Runs.len rfl sl27) ?_; rfl; rfl) | (refine WL.val ?_ ?_ (Runs.len rfl sl28) ?_; rfl; rfl) | (refine WL.val ?_ ?_ (Runs.len rfl sl39) ?_; rfl; rfl) | (refine WL.val ?_ ?_ (Runs.len rfl sl64) ?_; rfl; rfl) | (refine WL.val ?_ ?_ (Runs.len rfl sl68) ?_; rfl; rfl) | (refine WL.val ?_ ?_ (Runs.len rfl sl86) ?_; rfl; rfl) | (refine WL.val ?_ ?_ (Runs.len rfl sl113) ?_; rfl; rfl) | (refine WL.pass ?_ ?_ ?_; rfl; rfl))
  refine WL.nil ?_
  repeat (first | refine AtExit.thenRet ?_ | refine AtExit.thenExit ?_ | refine AtExit.blockRet ?_ | refine AtExit.blockEnd ?_ | refine AtExit.blockExit ?_ | (refine AtExit.blockPast ?_ ?_; rfl))
  refine AtExit.go ?_
  refine WC.seq (WC.quiet (fun wq => Below w.heap.size w wq) mixed (by kernel_rfl) (below_drawn _ _ _) ?_)
  repeat (first | (refine QL.val ?_ ?_ (fun wq hC => Runs.move rfl) ?_; rfl; rfl) | (refine QL.val ?_ ?_ (fun wq hC => Runs.assign rfl) ?_; rfl; rfl) | (refine QL.val ?_ ?_ (fun wq hC => Runs.extract rfl rfl) ?_; rfl; rfl) | (refine QL.val ?_ ?_ (fun wq hC => Runs.nilCheck rfl) ?_; rfl; rfl) | (refine QL.val ?_ ?_ (fun wq hC => Runs.pickT rfl rfl) ?_; rfl; rfl) | (refine QL.val ?_ ?_ (fun wq hC => Runs.pickF rfl rfl) ?_; rfl; rfl) | (refine QL.val ?_ ?_ (fun wq hC => Runs.len rfl sl22) ?_; rfl; rfl) | (refine QL.val ?_ ?_ (fun wq hC => Runs.len rfl sl23) ?_; rfl; rfl) | (refine QL.val ?_ ?_ (fun wq hC => Runs.len rfl sl27) ?_; rfl; rfl) | (refine QL.val ?_ ?_ (fun wq hC => Runs.len rfl sl28) ?_; rfl; rfl) | (refine QL.val ?_ ?_ (fun wq hC => Runs.len rfl sl39) ?_; rfl; rfl) | (refine QL.val ?_ ?_ (fun wq hC => Runs.len rfl sl64) ?_; rfl; rfl) | (refine QL.val ?_ ?_ (fun wq hC => Runs.len rfl sl68) ?_; rfl; rfl) | (refine QL.val ?_ ?_ (fun wq hC => Runs.len rfl sl86) ?_; rfl; rfl) | (refine QL.val ?_ ?_ (fun wq hC => Runs.len rfl sl113) ?_; rfl; rfl) | (refine QL.pass ?_ ?_ ?_; rfl; rfl))
  refine QL.val rfl rfl (fun wq hC => Runs.fld rfl fl73_0) ?_
  refine QL.val rfl rfl (fun wq hC => Runs.load rfl na24 (v := .int .i64 d) (by rw [cell_of (hT.below hC)]; rfl)) ?_
  repeat (first | (refine QL.val ?_ ?_ (fun wq hC => Runs.move rfl) ?_; rfl; rfl) | (refine QL.val ?_ ?_ (fun wq hC => Runs.assign rfl) ?_; rfl; rfl) | (refine QL.val ?_ ?_ (fun wq hC => Runs.extract rfl rfl) ?_; rfl; rfl) | (refine QL.val ?_ ?_ (fun wq hC => Runs.nilCheck rfl) ?_; rfl; rfl) | (refine QL.val ?_ ?_ (fun wq hC => Runs.pickT rfl rfl) ?_; rfl; rfl) | (refine QL.val ?_ ?_ (fun wq hC => Runs.pickF rfl rfl) ?_; rfl; rfl) | (refine QL.val ?_ ?_ (fun wq hC => Runs.len rfl sl22) ?_; rfl; rfl) | (refine QL.val ?_ ?_ (fun wq hC => Runs.len rfl sl23) ?_; rfl; rfl) | (refine QL.val ?_ ?_ (fun wq hC => Runs.len rfl sl27) ?_; rfl; rfl) | (refine QL.val ?_ ?_ (fun wq hC => Runs.len rfl sl28) ?_; rfl; rfl) | (refine QL.val ?_ ?_ (fun wq hC => Runs.len rfl sl39) ?_; rfl; rfl) | (refine QL.val ?_ ?_ (fun wq hC => Runs.len rfl sl64) ?_; rfl; rfl) | (refine QL.val ?_ ?_ (fun wq hC => Runs.len rfl sl68) ?_; rfl; rfl) | (refine QL.val ?_ ?_ (fun wq hC => Runs.len rfl sl86) ?_; rfl; rfl) | (refine QL.val ?_ ?_ (fun wq hC => Runs.len rfl sl113) ?_; rfl; rfl) | (refine QL.pass ?_ ?_ ?_; rfl; rfl))
  refine QL.val rfl rfl (fun wq hC => Runs.fld rfl fl30_0) ?_
  refine QL.val rfl rfl (fun wq hC => Runs.load rfl na24 (v := .int .i64 now) (by rw [cell_of (below_heap hC (lt_of_heap hK) hK)]; rfl)) ?_
  refine QL.val rfl rfl (fun wq hC => Runs.sub rfl rfl (r := d - now) (wI rfl h0 h1)) ?_
  repeat (first | (refine QL.val ?_ ?_ (fun wq hC => Runs.move rfl) ?_; rfl; rfl) | (refine QL.val ?_ ?_ (fun wq hC => Runs.assign rfl) ?_; rfl; rfl) | (refine QL.val ?_ ?_ (fun wq hC => Runs.extract rfl rfl) ?_; rfl; rfl) | (refine QL.val ?_ ?_ (fun wq hC => Runs.nilCheck rfl) ?_; rfl; rfl) | (refine QL.val ?_ ?_ (fun wq hC => Runs.pickT rfl rfl) ?_; rfl; rfl) | (refine QL.val ?_ ?_ (fun wq hC => Runs.pickF rfl rfl) ?_; rfl; rfl) | (refine QL.val ?_ ?_ (fun wq hC => Runs.len rfl sl22) ?_; rfl; rfl) | (refine QL.val ?_ ?_ (fun wq hC => Runs.len rfl sl23) ?_; rfl; rfl) | (refine QL.val ?_ ?_ (fun wq hC => Runs.len rfl sl27) ?_; rfl; rfl) | (refine QL.val ?_ ?_ (fun wq hC => Runs.len rfl sl28) ?_; rfl; rfl) | (refine QL.val ?_ ?_ (fun wq hC => Runs.len rfl sl39) ?_; rfl; rfl) | (refine QL.val ?_ ?_ (fun wq hC => Runs.len rfl sl64) ?_; rfl; rfl) | (refine QL.val ?_ ?_ (fun wq hC => Runs.len rfl sl68) ?_; rfl; rfl) | (refine QL.val ?_ ?_ (fun wq hC => Runs.len rfl sl86) ?_; rfl; rfl) | (refine QL.val ?_ ?_ (fun wq hC => Runs.len rfl sl113) ?_; rfl; rfl) | (refine QL.pass ?_ ?_ ?_; rfl; rfl))
  refine QL.nil fun wq hC => ?_
  repeat (first | refine AtExit.thenRet ?_ | refine AtExit.thenExit ?_ | refine AtExit.blockRet ?_ | refine AtExit.blockEnd ?_ | refine AtExit.blockExit ?_ | (refine AtExit.blockPast ?_ ?_; rfl))
  refine AtExit.go ?_
  refine WC.ret ?_
  repeat (first | refine AtExit.thenRet ?_ | refine AtExit.thenExit ?_ | refine AtExit.blockRet ?_ | refine AtExit.blockEnd ?_ | refine AtExit.blockExit ?_ | (refine AtExit.blockPast ?_ ?_; rfl))
  exact post1 rfl rfl ⟨rfl, hC⟩
end
end Go.Proofs.Ybulkgfdm
