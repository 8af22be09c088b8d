/- The UE: NewUE, the handler, startBackOff. -/
import Derived.Test.YbulkgfdmPdqk
namespace Go.Proofs.Ybulkgfdm
open Go Go.Fr Go.RowKit

/-- What kind of block it is. -/
def tg : Obj → Nat
  | .cells _ t _ => t
  | .map _ _ => 1000
  | _ => 1001
/-- It is of none of these kinds. -/
def no (l : List Nat) (o : Obj) : Bool := l.all fun t => !(Nat.beq (tg o) t)
theorem no_ne {l : List Nat} {o : Obj} (h : no l o = true) {t : Nat} (ht : t ∈ l) : tg o ≠ t := by
  intro e
  unfold no at h
  rw [List.all_eq_true] at h
  have := h t ht
  rw [e, Nat.beq_refl] at this
  cases this
def hnd (cnt : Nat) : Value := .func (.func 4) #[] #[pv cnt]
def ueL (C cnt mb : Nat) (S : List Value) (off : Bool) : List Value := pv C :: hnd cnt :: (S ++ [.map (some mb), .bool off])
def ueC (C cnt mb : Nat) (S : List Value) (off : Bool) : Array Value := (ueL C cnt mb S off).toArray
theorem ue0 {C cnt mb : Nat} {S : List Value} {off : Bool} : (ueC C cnt mb S off)[0]? = some (pv C) := rfl
theorem ue1 {C cnt mb : Nat} {S : List Value} {off : Bool} : (ueC C cnt mb S off)[1]? = some (hnd cnt) := rfl
theorem ue130 {C cnt mb : Nat} {S : List Value} {off : Bool} (h : S.length = 128) : (ueC C cnt mb S off)[130]? = some (.map (some mb)) := by
  unfold ueC ueL
  rw [List.getElem?_toArray, List.getElem?_cons_succ, List.getElem?_cons_succ, List.getElem?_append_right (by omega), h]
  rfl
theorem ue131 {C cnt mb : Nat} {S : List Value} {off : Bool} (h : S.length = 128) : (ueC C cnt mb S off)[131]? = some (.bool off) := by
  unfold ueC ueL
  rw [List.getElem?_toArray, List.getElem?_cons_succ, List.getElem?_cons_succ, List.getElem?_append_right (by omega), h]
  rfl
theorem ueS {C cnt mb : Nat} {S : List Value} {off : Bool} {j : Nat} {u : Value} (h : S[j]? = some u) : (ueC C cnt mb S off)[2 + j]? = some u := by
  unfold ueC ueL
  rw [List.getElem?_toArray, show 2 + j = j + 1 + 1 from by omega, List.getElem?_cons_succ, List.getElem?_cons_succ, List.getElem?_append_left (List.getElem?_eq_some_iff.1 h).1]
  exact h
theorem ue_there {w : World} {U C cnt mb : Nat} {S : List Value} {off : Bool} (h : w.heap[U]? = some (.cells (ueC C cnt mb S off) 58 (0, 0))) {i k : Nat} (hs : i + k ≤ S.length) : w.there U (2 + i) k := by
  intro j hj
  obtain ⟨u, hu⟩ : ∃ u, S[i + j]? = some u := ⟨_, List.getElem?_eq_getElem (by omega)⟩
  refine ⟨?_, frozen_of h⟩
  rw [cell_of h, Nat.add_assoc, ueS hu]
  rfl
theorem ue_put {w : World} {U C cnt mb : Nat} {S : List Value} {off : Bool} (h : w.heap[U]? = some (.cells (ueC C cnt mb S off) 58 (0, 0))) {i : Nat} (cs : List Value) (hs : i + cs.length ≤ S.length) :
    (w.setCells U (2 + i) cs).heap[U]? = some (.cells (ueC C cnt mb (S.take i ++ cs ++ S.drop (i + cs.length)) off) 58 (0, 0)) := by
  have e : ueL C cnt mb S off = (pv C :: hnd cnt :: S.take i) ++ (S.drop i).take cs.length ++ (S.drop (i + cs.length) ++ [.map (some mb), .bool off]) := by
    unfold ueL
    have : S = S.take i ++ ((S.drop i).take cs.length ++ S.drop (i + cs.length)) := by
      rw [← List.drop_drop, List.take_append_drop, List.take_append_drop]
    conv => lhs; rw [this]
    simp
  unfold ueC at h
  rw [e] at h
  have := heap_setCells U 58 cs _ _ _ w (by rw [List.length_take, List.length_drop]; omega) h
  have e2 : (pv C :: hnd cnt :: S.take i).length = 2 + i := by simp; omega
  rw [e2] at this
  rw [this]
  unfold ueC ueL
  simp

theorem HQ.keep {N : Nat} {inf : Nat → TI} {C : Nat} {now : Int} {st : Nat} {w w' : World} {v : Value} {ts : List Nat} (h : HQ N inf C now st w v ts) (hc : Chg w w' (fun k => k = C ∨ v.ownBlock = some k ∨ k ∈ ts)) {k : Nat} {o : Obj}
    (hx : w.heap[k]? = some o) (ho : no [30, 73] o = true ∧ (no [42] o = true ∨ v.ownBlock ≠ some k)) : w'.heap[k]? = some o := by
  refine hc.heap (fun hk => ?_) hx
  rcases hk with rfl | hk | hk
  · have := h.clk
    rw [hx] at this
    cases this
    exact no_ne ho.1 (t := 30) (by simp) rfl
  · rcases ho.2 with h1 | h1
    · rcases h.own.2 with ⟨rfl, _⟩ | ⟨g, cap, cur, rfl, hb, hg, _⟩
      · cases hk
      · cases hk
        rw [hx] at hg
        cases hg
        exact no_ne h1 (t := 42) (by simp) rfl
    · exact h1 hk
  · obtain ⟨i, hi, e⟩ := List.getElem_of_mem hk
    have := h.tim i k (by rw [List.getElem?_eq_getElem hi, e])
    unfold TimerAt at this
    rw [hx] at this
    cases this
    exact no_ne ho.1 (t := 73) (by simp) rfl
/-- The queue stands where only blocks of other kinds are written. -/
theorem HQ.chg {N : Nat} {inf : Nat → TI} {C : Nat} {now : Int} {st : Nat} {w w' : World} {v : Value} {ts : List Nat} (h : HQ N inf C now st w v ts) {m : Nat → Prop} (hc : Chg w w' m)
    (hm : ∀ k, m k → ∃ o, w.heap[k]? = some o ∧ no [30, 73] o = true ∧ (no [42] o = true ∨ v.ownBlock ≠ some k)) : HQ N inf C now st w' v ts := by
  refine ⟨hc.heap (fun hk => ?_) h.clk, own_same h.own fun k hk => ?_, fun i t ht => hc.heap (fun hk => ?_) (h.tim i t ht), h.nd⟩
  · obtain ⟨o, ho, h1, _⟩ := hm C hk
    rw [h.clk] at ho
    cases ho
    exact no_ne h1 (t := 30) (by simp) rfl
  · refine hc.block k (h.row_ne hk).2.2.2 (fun hmk => ?_)
    obtain ⟨o, ho, _, h3⟩ := hm k hmk
    rcases h3 with h3 | h3
    · rcases h.own.2 with ⟨rfl, _⟩ | ⟨g, cap, cur, rfl, hb, hg, _⟩
      · cases hk
      · cases hk
        rw [ho] at hg
        cases hg
        exact no_ne h3 (t := 42) (by simp) rfl
    · exact h3 hk
  · obtain ⟨o, ho, h2, _⟩ := hm t hk
    have := h.tim i t ht
    unfold TimerAt at this
    rw [ho] at this
    cases this
    exact no_ne h2 (t := 73) (by simp) rfl

theorem handle_any (cnt c : Nat) (ev : Value) (w : World) (h : w.heap[cnt]? = some (.cells #[.int .i64 (c : Int)] 3 (0, 0))) (hc : c < 5000) :
    Calls Yba.prog 4 #[ev, pv cnt] w fun e w' => e = .returned (.tuple #[]) ∧ w' = w.setCell ⟨cnt, 0, none⟩ (.int .i64 ((c + 1 : Nat) : Int)) := by
  refine calls_of Yba.func4 rfl Yba.ntmps4 rfl ?_
  refine WC.region ?_
  refine WL.val rfl rfl (Runs.load rfl na3 (v := .int .i64 (c : Int)) (by rw [cell_of h]; rfl)) ?_
  refine WL.val rfl rfl (Runs.add rfl rfl (r := ((c + 1 : Nat) : Int)) (wI (by omega) (by omega) (by omega))) ?_
  refine WL.skip rfl (RunsS.store rfl rfl rfl sz3 (u := .int .i64 (c : Int)) (by rw [cell_of h]; rfl) (frozen_of h)) ?_
  refine WL.nil ?_
  exact post0e rfl ⟨rfl, rfl⟩

def ses0 : List Value := [.int .u8 0, .int .u8 0, .string ⟨#[]⟩, .int .u8 0, .int .u32 0, .bool false, .bool false, .bool false]
def S0 : List Value := (List.replicate 16 ses0).flatten
theorem S0_len : S0.length = 128 := by kernel_rfl
theorem built58 (C cnt mb : Nat) : Yba.prog.built 58 [(0, pv C), (1, hnd cnt), (3, .map (some mb))] = some (ueC C cnt mb S0 false) := by kernel_rfl
theorem newUE_any (C cnt : Nat) (w : World) : Calls Yba.prog 5 #[pv C, hnd cnt] w fun e w' => e = .returned (pv (w.heap.size + 1)) ∧ w' = (w.alloc (.map #[] 0)).alloc (.cells (ueC C cnt w.heap.size S0 false) 58) := by
  refine calls_of Yba.func5 rfl Yba.ntmps5 rfl ?_
  refine WC.seq (WC.region ?_)
  repeat (first | (refine WL.val ?_ ?_ (Runs.move rfl) ?_; rfl; rfl) | (refine WL.val ?_ ?_ (Runs.assign rfl) ?_; rfl; rfl) | (refine WL.val ?_ ?_ (Runs.extract rfl rfl) ?_; rfl; rfl) | (refine WL.val ?_ ?_ (Runs.nilCheck rfl) ?_; rfl; rfl) | (refine WL.val ?_ ?_ (Runs.pickT rfl rfl) ?_; rfl; rfl) | (refine WL.val ?_ ?_ (Runs.pickF rfl rfl) ?_; rfl; rfl) | (refine WL.val ?_ ?_ (Runs.len rfl sl22) ?_; rfl; rfl) | (refine WL.val ?_ ?_ (Runs.len rfl sl23) ?_; rfl; rfl) | (refine WL.val ?_ ?_ (Runs.len rfl sl27) ?_; rfl; rfl) | (refine WL.val ?_ ?_ (Runs.len rfl sl28) ?_; rfl; rfl) | (refine WL.val ?_ ?_ (Runs.len rfl sl39) ?_; rfl; rfl) | (refine WL.val ?_ ?_ (Runs.len rfl sl64) ?_; rfl; rfl) | (refine WL.val ?_ ?_ (Runs.len rfl sl68) ?_; rfl; rfl) | (refine WL.val ?_ ?_ (Runs.len rfl sl86) ?_; rfl; rfl) | (refine WL.val ?_ ?_ (Runs.len rfl sl113) ?_; rfl; rfl) | (refine WL.pass ?_ ?_ ?_; rfl; rfl))
  refine WL.nil ?_
  repeat (first | refine AtExit.thenRet ?_ | refine AtExit.thenExit ?_ | refine AtExit.blockRet ?_ | refine AtExit.blockEnd ?_ | refine AtExit.blockExit ?_ | (refine AtExit.blockPast ?_ ?_; rfl))
  refine AtExit.go ?_
  refine WC.seq (WC.region ?_)
  repeat (first | (refine WL.val ?_ ?_ (Runs.move rfl) ?_; rfl; rfl) | (refine WL.val ?_ ?_ (Runs.assign rfl) ?_; rfl; rfl) | (refine WL.val ?_ ?_ (Runs.extract rfl rfl) ?_; rfl; rfl) | (refine WL.val ?_ ?_ (Runs.nilCheck rfl) ?_; rfl; rfl) | (refine WL.val ?_ ?_ (Runs.pickT rfl rfl) ?_; rfl; rfl) | (refine WL.val ?_ ?_ (Runs.pickF rfl rfl) ?_; rfl; rfl) | (refine WL.val ?_ ?_ (Runs.len rfl sl22) ?_; rfl; rfl) | (refine WL.val ?_ ?_ (Runs.len rfl sl23) ?_; rfl; rfl) | (refine WL.val ?_ ?_ (Runs.len rfl sl27) ?_; rfl; rfl) | (refine WL.val ?_ ?_ (Runs.len rfl sl28) ?_; rfl; rfl) | (refine WL.val ?_ ?_ (Runs.len rfl sl39) ?_; rfl; rfl) | (refine WL.val ?_ ?_ (Runs.len rfl sl64) ?_; rfl; rfl) | (refine WL.val ?_ ?_ (Runs.len rfl sl68) ?_; rfl; rfl) | (refine WL.val ?_ ?_ (Runs.len rfl sl86) ?_; rfl; rfl) | (refine WL.val ?_ ?_ (Runs.len rfl sl113) ?_; rfl; rfl) | (refine WL.pass ?_ ?_ ?_; rfl; rfl))
  refine WL.val rfl rfl (Runs.makeMap) ?_
  refine WL.val rfl rfl (Runs.build rfl (built58 C cnt w.heap.size)) ?_
  refine WL.val rfl rfl (Runs.box rfl) ?_
  repeat (first | (refine WL.val ?_ ?_ (Runs.move rfl) ?_; rfl; rfl) | (refine WL.val ?_ ?_ (Runs.assign rfl) ?_; rfl; rfl) | (refine WL.val ?_ ?_ (Runs.extract rfl rfl) ?_; rfl; rfl) | (refine WL.val ?_ ?_ (Runs.nilCheck rfl) ?_; rfl; rfl) | (refine WL.val ?_ ?_ (Runs.pickT rfl rfl) ?_; rfl; rfl) | (refine WL.val ?_ ?_ (Runs.pickF rfl rfl) ?_; rfl; rfl) | (refine WL.val ?_ ?_ (Runs.len rfl sl22) ?_; rfl; rfl) | (refine WL.val ?_ ?_ (Runs.len rfl sl23) ?_; rfl; rfl) | (refine WL.val ?_ ?_ (Runs.len rfl sl27) ?_; rfl; rfl) | (refine WL.val ?_ ?_ (Runs.len rfl sl28) ?_; rfl; rfl) | (refine WL.val ?_ ?_ (Runs.len rfl sl39) ?_; rfl; rfl) | (refine WL.val ?_ ?_ (Runs.len rfl sl64) ?_; rfl; rfl) | (refine WL.val ?_ ?_ (Runs.len rfl sl68) ?_; rfl; rfl) | (refine WL.val ?_ ?_ (Runs.len rfl sl86) ?_; rfl; rfl) | (refine WL.val ?_ ?_ (Runs.len rfl sl113) ?_; rfl; rfl) | (refine WL.pass ?_ ?_ ?_; rfl; rfl))
  refine WL.nil ?_
  repeat (first | refine AtExit.thenRet ?_ | refine AtExit.thenExit ?_ | refine AtExit.blockRet ?_ | refine AtExit.blockEnd ?_ | refine AtExit.blockExit ?_ | (refine AtExit.blockPast ?_ ?_; rfl))
  refine AtExit.go ?_
  refine WC.ret ?_
  repeat (first | refine AtExit.thenRet ?_ | refine AtExit.thenExit ?_ | refine AtExit.blockRet ?_ | refine AtExit.blockEnd ?_ | refine AtExit.blockExit ?_ | (refine AtExit.blockPast ?_ ?_; rfl))
  exact post1 rfl rfl ⟨by rw [size_new]; rfl, rfl⟩

/-- The UE, its clock and its map. -/
structure St (N : Nat) (inf : Nat → TI) (C U mb cnt : Nat) (now : Int) (st : Nat) (S : List Value) (off : Bool) (calls : Nat) (w : World) (v : Value) (ts : List Nat) (M : MapL) : Prop where
  hq : HQ N inf C now st w v ts
  ue : w.heap[U]? = some (.cells (ueC C cnt mb S off) 58 (0, 0))
  sl : S.length = 128
  map : MapAt w mb M
  cn : w.heap[cnt]? = some (.cells #[.int .i64 (calls : Int)] 3 (0, 0))

def keptC (p : Nat × Int) : List Value := kc p.1 ++ [.int .i64 p.2]
theorem built79 (x : Nat) (d : Int) : Yba.prog.built 79 [(0, kv x), (1, .int .i64 d)] = some (keptC (x, d)).toArray := by kernel_rfl
theorem built73 (a d : Int) (s : Nat) (f : Nat) (A B : Array Value) : Yba.prog.built 73 [(0, .int .i64 (a + d)), (1, .int .u64 ((s + 1 : Nat) : Int)), (3, .func (.func f) A B)] = some #[.int .i64 (a + d), .int .u64 ((s + 1 : Nat) : Int), .int .i64 0, .func (.func f) A B] := by kernel_rfl

section
variable {N : Nat} {inf : Nat → TI} {C U mb cnt : Nat} {now : Int} {st : Nat} {S : List Value} {off : Bool} {calls : Nat} {w : World} {v : Value} {ts : List Nat} {M : MapL}
theorem sbo_any (h : St N inf C U mb cnt now st S off calls w v ts M) (hN : N ≤ w.heap.size) (hl : ts.length < 4999) (d : Int) (hd0 : 0 ≤ d) (hd1 : d < 1125899906842624) (hn0 : 0 ≤ now) (hn1 : now < 1125899906842624) (hst : st < 5000) (x : Nat) (hx : x < 9) (hK : AllK M)
    (hn : lookM x M = none) (hcl : calls < 5000) :
    Calls Yba.prog 8 #[pv U, kv x, .int .i64 d] w fun e w' => e = .returned (.tuple #[]) ∧ ∃ T fire v' ts', w.heap.size ≤ T ∧ T < w'.heap.size ∧ St N (upd inf T ⟨now + d, st + 1, fire⟩) C U mb cnt now (st + 1) S off (calls + 1) w' v' ts' (M ++ [(x, some T)]) ∧
      ts'.Perm (ts ++ [T]) ∧ Chg w w' (fun k => k = C ∨ v.ownBlock = some k ∨ k ∈ ts ∨ k = mb ∨ k = cnt) ∧ (∀ k, v'.ownBlock = some k → v.ownBlock = some k ∨ w.heap.size ≤ k) := by
  refine calls_of Yba.func8 rfl Yba.ntmps8 rfl ?_
  refine WC.seq (WC.region ?_)
  refine WL.val rfl rfl (Runs.box rfl) ?_
  refine WL.val rfl rfl (Runs.box rfl) ?_
  refine WL.nil ?_
  repeat (first | refine AtExit.thenRet ?_ | refine AtExit.thenExit ?_ | refine AtExit.blockRet ?_ | refine AtExit.blockEnd ?_ | refine AtExit.blockExit ?_ | (refine AtExit.blockPast ?_ ?_; rfl))
  refine AtExit.go ?_
  have b1 := below_new w (.cells (pv U).cells 34) (Nat.le_refl _)
  have b2 := below_new (w.alloc (.cells (pv U).cells 34)) (.cells (kv x).cells 48) (Nat.le_refl _)
  have n1 : ((w.alloc (.cells (pv U).cells 34)).alloc (.cells (kv x).cells 48)).heap[w.heap.size]? = some (.cells (pv U).cells 34) := heap_old (heap_new w _)
  have n2 := heap_new (w.alloc (.cells (pv U).cells 34)) (.cells (kv x).cells 48)
  have z2 : ((w.alloc (.cells (pv U).cells 34)).alloc (.cells (kv x).cells 48)).heap.size = w.heap.size + 2 := by rw [size_new, size_new]
  rw [size_new] at n2 ⊢
  have hb := Below.up b1 b2
  generalize (w.alloc _).alloc _ = w1 at n1 n2 hb z2 ⊢
  have hbd : Below w1.heap.size w1 w1.drew := below_drawn _ _ _
  have hb1 := Below.up hb hbd
  have zd : w1.drew.heap.size = w.heap.size + 2 := z2
  have q1 := h.hq.below hb1
  have u1 := below_heap hb1 (lt_of_heap h.ue) h.ue
  have m1 : MapAt w1.drew mb M := below_heap hb1 (lt_of_heap h.map) h.map
  have c1 := below_heap hb1 (lt_of_heap h.cn) h.cn
  have n1 : w1.drew.heap[w.heap.size]? = some (.cells (pv U).cells 34) := n1
  have n2 : w1.drew.heap[w.heap.size + 1]? = some (.cells (kv x).cells 48) := n2
  refine WC.seq (WC.held (fun wq => wq.heap[w.heap.size]? = some (.cells (pv U).cells 34) ∧ wq.heap[w.heap.size + 1]? = some (.cells (kv x).cells 48) ∧ wq.heap[U]? = some (.cells (ueC C cnt mb S off) 58 (0, 0))) mixed rfl ?_)
  generalize w1.drew = w2 at hb1 zd q1 u1 m1 c1 n1 n2 ⊢
  have hS2 : w2.heap[w.heap.size]? = some (.cells (pv U).cells 34) ∧ w2.heap[w.heap.size + 1]? = some (.cells (kv x).cells 48) ∧ w2.heap[U]? = some (.cells (ueC C cnt mb S off) 58 (0, 0)) := ⟨n1, n2, u1⟩
  refine HL.take 0 rfl (by kernel_rfl) (by kernel_rfl) (by kernel_rfl) (fun _ _ _ h => h) rfl rfl (fun wq hC => Runs.load rfl na34 (v := pv U) (by rw [cell_of hC.1]; rfl)) (by assumption) ?_
  refine HL.take 1 rfl (by kernel_rfl) (by kernel_rfl) (by kernel_rfl) (fun _ _ _ h => h) rfl rfl (fun wq hC => Runs.nilCheck rfl) (by assumption) ?_
  refine HL.take 2 rfl (by kernel_rfl) (by kernel_rfl) (by kernel_rfl) (fun _ _ _ h => h) rfl rfl (fun wq hC => Runs.fld rfl fl58_3) (by assumption) ?_
  refine HL.take 3 rfl (by kernel_rfl) (by kernel_rfl) (by kernel_rfl) (fun _ _ _ h => h) rfl rfl (fun wq hC => Runs.load rfl na56 (v := .map (some mb)) (by rw [cell_of hC.2.2]; exact ue130 h.sl)) (by assumption) ?_
  refine HL.take 4 rfl (by kernel_rfl) (by kernel_rfl) (by kernel_rfl) (fun _ _ _ h => h) rfl rfl (fun wq hC => Runs.loadAgg (cs := kc x) rfl na48 sz48 (fun j v hv => by rw [cell_of hC.2.1, Nat.zero_add]; exact (List.getElem?_toArray).trans hv)) (by assumption) ?_
  refine HL.take 5 rfl (by kernel_rfl) (by kernel_rfl) (by kernel_rfl) (fun _ _ _ h => h) rfl rfl (fun wq hC => Runs.load rfl na34 (v := pv U) (by rw [cell_of hC.1]; rfl)) (by assumption) ?_
  refine HL.take 6 rfl (by kernel_rfl) (by kernel_rfl) (by kernel_rfl) (fun _ _ _ h => h) rfl rfl (fun wq hC => Runs.nilCheck rfl) (by assumption) ?_
  refine HL.take 7 rfl (by kernel_rfl) (by kernel_rfl) (by kernel_rfl) (fun _ _ _ h => h) rfl rfl (fun wq hC => Runs.fld rfl fl58_0) (by assumption) ?_
  refine HL.take 8 rfl (by kernel_rfl) (by kernel_rfl) (by kernel_rfl) (fun _ _ _ h => h) rfl rfl (fun wq hC => Runs.load rfl na26 (v := pv C) (by rw [cell_of hC.2.2]; exact ue0)) (by assumption) ?_
  refine HL.take 9 rfl (by kernel_rfl) (by kernel_rfl) (by kernel_rfl) (fun _ _ _ h => h) rfl rfl (fun wq hC => Runs.move rfl) (by assumption) ?_
  refine HL.take 10 rfl (by kernel_rfl) (by kernel_rfl) (by kernel_rfl) (fun _ _ _ h => h) rfl rfl (fun wq hC => Runs.mkFunc rfl) (by assumption) ?_
  refine HL.all1 (i := 11) (by kernel_rfl) ?_
  refine HO.call rfl rfl rfl (RunsC.call rfl en6) (start_any q1 (by omega) hl d (.func (.func 11) #[] #[pv w.heap.size, pv (w.heap.size + 1)]) hd0 hd1 hn0 hn1 hst (built73 _ _ _ _ _ _)) ?_
  rintro e w3 ⟨rfl, z3, v', ts', q3, p3, g3, loc3⟩
  have k3 : ∀ {k : Nat} {o : Obj}, w2.heap[k]? = some o → no [30, 73] o = true → no [42] o = true → w3.heap[k]? = some o := fun hx h1 h2 => q1.keep g3 hx ⟨h1, Or.inl h2⟩
  have s3 := And.intro (k3 n1 rfl rfl) (And.intro (k3 n2 rfl rfl) (k3 u1 rfl rfl))
  have m3 : MapAt w3 mb M := k3 m1 rfl rfl
  have c3 := k3 c1 rfl rfl
  refine ⟨_, rfl, s3, ?_⟩
  obtain ⟨w4, r4, m4, g4, z4⟩ := update_run x hx (some w2.heap.size) w3 mb M hK m3 hn
  have k4 : ∀ {k : Nat} {o : Obj}, w3.heap[k]? = some o → no [1000] o = true → w4.heap[k]? = some o := fun hx ho => g4.heap (fun e => by
    subst e
    unfold MapAt at m3
    rw [m3] at hx
    cases hx
    exact no_ne ho (t := 1000) (by simp) rfl) hx
  have s4 := And.intro (k4 s3.1 rfl) (And.intro (k4 s3.2.1 rfl) (k4 s3.2.2 rfl))
  have c4 := k4 c3 rfl
  have q4 := q3.chg g4 (fun k hk => by subst hk; exact ⟨_, m3, rfl, Or.inl rfl⟩)
  refine HL.all1 (i := 12) (by kernel_rfl) ?_
  refine HO.skip rfl rfl (RunsS.update rfl rfl (t := some w2.heap.size) rfl r4) s4 ?_
  refine HL.done (by kernel_rfl) ?_
  repeat (first | refine AtExit.thenRet ?_ | refine AtExit.thenExit ?_ | refine AtExit.blockRet ?_ | refine AtExit.blockEnd ?_ | refine AtExit.blockExit ?_ | (refine AtExit.blockPast ?_ ?_; rfl))
  refine AtExit.go ?_
  have hb4 : Below w4.heap.size w4 w4.drew := below_drawn _ _ _
  have q5 := q4.below hb4
  have m5 : MapAt w4.drew mb (M ++ [(x, some w2.heap.size)]) := m4
  have c5 : w4.drew.heap[cnt]? = some (.cells #[.int .i64 (calls : Int)] 3 (0, 0)) := c4
  have s5 : w4.drew.heap[w.heap.size]? = some (.cells (pv U).cells 34) ∧ w4.drew.heap[w.heap.size + 1]? = some (.cells (kv x).cells 48) ∧ w4.drew.heap[U]? = some (.cells (ueC C cnt mb S off) 58 (0, 0)) := s4
  refine WC.still 8 mixed (by kernel_rfl) ?_
  have g5 : Chg w w4.drew (fun k => k = C ∨ v.ownBlock = some k ∨ k ∈ ts ∨ k = mb ∨ k = cnt) := by
    refine (Chg.of_below hb1).trans (Chg.trans (b := w3) (g3.mono fun k _ hk => ?_) (Chg.trans (b := w4) (g4.mono fun k _ hk => Or.inr (Or.inr (Or.inr (Or.inl hk)))) (Chg.of_below hb4)))
    rcases hk with h1 | h1 | h1
    · exact Or.inl h1
    · exact Or.inr (Or.inl h1)
    · exact Or.inr (Or.inr (Or.inl h1))
  have z5 : w2.heap.size < w4.drew.heap.size := by
    show w2.heap.size < w4.heap.size
    omega
  generalize w4.drew = w5 at q5 m5 c5 s5 g5 z5 ⊢
  refine SL.val rfl rfl (Runs.load rfl na34 (v := pv U) (by rw [cell_of s5.1]; rfl)) ?_
  refine SL.val rfl rfl (Runs.nilCheck rfl) ?_
  refine SL.val rfl rfl (Runs.fld rfl fl58_1) ?_
  refine SL.val rfl rfl (Runs.load rfl na33 (v := hnd cnt) (by rw [cell_of s5.2.2]; exact ue1)) ?_
  refine SL.val rfl rfl (Runs.loadAgg (cs := kc x) rfl na48 sz48 (fun j v hv => by rw [cell_of s5.2.1, Nat.zero_add]; exact (List.getElem?_toArray).trans hv)) ?_
  repeat (first | (refine SL.val ?_ ?_ (Runs.move rfl) ?_; rfl; rfl) | (refine SL.val ?_ ?_ (Runs.assign rfl) ?_; rfl; rfl) | (refine SL.val ?_ ?_ (Runs.extract rfl rfl) ?_; rfl; rfl) | (refine SL.val ?_ ?_ (Runs.nilCheck rfl) ?_; rfl; rfl) | (refine SL.val ?_ ?_ (Runs.pickT rfl rfl) ?_; rfl; rfl) | (refine SL.val ?_ ?_ (Runs.pickF rfl rfl) ?_; rfl; rfl) | (refine SL.val ?_ ?_ (Runs.len rfl sl22) ?_; rfl; rfl) | (refine SL.val ?_ ?_ (Runs.len rfl sl23) ?_; rfl; rfl) | (refine SL.val ?_ ?_ (Runs.len rfl sl27) ?_; rfl; rfl) | (refine SL.val ?_ ?_ (Runs.len rfl sl28) ?_; rfl; rfl) | (refine SL.val ?_ ?_ (Runs.len rfl sl39) ?_; rfl; rfl) | (refine SL.val ?_ ?_ (Runs.len rfl sl64) ?_; rfl; rfl) | (refine SL.val ?_ ?_ (Runs.len rfl sl68) ?_; rfl; rfl) | (refine SL.val ?_ ?_ (Runs.len rfl sl86) ?_; rfl; rfl) | (refine SL.val ?_ ?_ (Runs.len rfl sl113) ?_; rfl; rfl) | (refine SL.pass ?_ ?_ ?_; rfl; rfl))
  refine SL.val rfl rfl (Runs.build rfl (built79 x d)) ?_
  refine SL.val rfl rfl (Runs.mkIface rfl (by kernel_rfl)) ?_
  refine SL.nil ?_
  refine WL.call rfl rfl (RunsC.callV rfl rfl en4) (handle_any cnt calls _ w5 c5 hcl) ?_
  rintro e w6 ⟨rfl, rfl⟩
  refine ⟨_, rfl, ?_⟩
  refine WL.nil ?_
  have g6 : Chg w5 (w5.setCell ⟨cnt, 0, none⟩ (.int .i64 ((calls + 1 : Nat) : Int))) (fun k => k = cnt) := Chg.set _ _ _ rfl
  have k6 : ∀ {k : Nat} {o : Obj}, w5.heap[k]? = some o → no [3] o = true → (w5.setCell ⟨cnt, 0, none⟩ (.int .i64 ((calls + 1 : Nat) : Int))).heap[k]? = some o := fun hx ho => g6.heap (fun e => by
    subst e
    rw [c5] at hx
    cases hx
    exact no_ne ho (t := 3) (by simp) rfl) hx
  have q6 := q5.chg g6 (fun k hk => by subst hk; exact ⟨_, c5, rfl, Or.inl rfl⟩)
  refine post0e rfl ⟨rfl, w2.heap.size, _, v', ts', by omega, by rw [size_set]; exact z5, ⟨q6, k6 s5.2.2 rfl, h.sl, k6 m5 rfl, heap_set c5⟩, p3, g5.trans (g6.mono fun k _ hk => Or.inr (Or.inr (Or.inr (Or.inr hk)))), fun k hk => ?_⟩
  rcases loc3 k hk with h1 | h1
  · exact Or.inl h1
  · exact Or.inr (by omega)
end
end Go.Proofs.Ybulkgfdm
