/- LawS9086AWhole. -/
import Derived.Test.YbulkgfdmEqs
namespace Go.Proofs.Ybulkgfdm
open Go Go.Fr Go.RowKit

theorem built52 (s : ByteArray) : Yba.prog.built 52 [(0, .string s)] = some #[.string s, .int .u8 0, .int .u32 0, .bool false, .bool false, .bool false] := by kernel_rfl
def sesC (a b : Int) (s : ByteArray) : List Value := [.int .u8 a, .int .u8 b, .string s, .int .u8 0, .int .u32 0, .bool false, .bool false, .bool false]
theorem built54 (a b : Int) (s : ByteArray) : Yba.prog.built 54 [(0, .int .u8 a), (1, .int .u8 b), (2, .agg #[.string s, .int .u8 0, .int .u32 0, .bool false, .bool false, .bool false])] = some (sesC a b s).toArray := by kernel_rfl
theorem sesC_one (a b : Int) (s : ByteArray) : (sesC a b s).toArray.all (·.oneCell') = true := by simp [sesC, Value.oneCell']
theorem und55 : Yba.prog.underlying 55 = some (.array 16 54) := by kernel_rfl
theorem und37 : Yba.prog.underlying 37 = some (.array 3 36) := by kernel_rfl
theorem und38 : Yba.prog.underlying 38 = some (.array 3 9) := by kernel_rfl

/-- The marks: which of the others' timers are among the first i of the queue. -/
def Fm (F T : List Nat) (i : Nat) (u : List Bool) : Prop := u.length = F.length ∧ ∀ (j f : Nat), F[j]? = some f → (u[j]? = some true ↔ f ∈ T.take i)
theorem Fm.at {F T : List Nat} {i : Nat} {u : List Bool} (h : Fm F T i u) {j f : Nat} (hj : F[j]? = some f) : (u[j]? = some true ∧ f ∈ T.take i) ∨ (u[j]? = some false ∧ f ∉ T.take i) := by
  have hl : j < u.length := by rw [h.1]; exact (List.getElem?_eq_some_iff.1 hj).1
  cases hb : u[j] with
  | true =>
    have : u[j]? = some true := by rw [List.getElem?_eq_getElem hl, hb]
    exact Or.inl ⟨this, (h.2 j f hj).1 this⟩
  | false =>
    have hf : u[j]? = some false := by rw [List.getElem?_eq_getElem hl, hb]
    exact Or.inr ⟨hf, fun hm => by rw [(h.2 j f hj).2 hm] at hf; cases hf⟩
theorem Fm.put {F T : List Nat} {i : Nat} {u : List Bool} (h : Fm F T i u) (hnd : F.Nodup) {b t : Nat} (hb : F[b]? = some t) (hx : T[i]? = some t) : Fm F T (i + 1) (u.set b true) := by
  refine ⟨by rw [List.length_set]; exact h.1, fun j f hj => ?_⟩
  have hbl : b < u.length := by rw [h.1]; exact (List.getElem?_eq_some_iff.1 hb).1
  rw [List.take_add_one, hx]
  by_cases hjb : b = j
  · subst hjb
    rw [hj] at hb
    cases hb
    rw [List.getElem?_set_self hbl]
    simp
  · rw [List.getElem?_set_ne hjb, h.2 j f hj]
    simp
    intro e'
    subst e'
    obtain ⟨h1, e1⟩ := List.getElem?_eq_some_iff.1 hb
    obtain ⟨h2, e2⟩ := List.getElem?_eq_some_iff.1 hj
    exact absurd ((List.getElem_inj hnd).1 (e1.trans e2.symm)) hjb
theorem S0_sz' : sizeB Yba.prog 55 = some S0.length := by kernel_rfl
theorem built48' (x : Nat) : Yba.prog.built 48 [(0, .string (tB (x % 3))), (1, .string (dB (x / 3)))] = some (kc x).toArray := built48 _ _
theorem OI.keep {C U mb cnt bT bD : Nat} {now : Int} {w0 : World} {i : Nat} {inf : Nat → TI} {st : Nat} {S : List Value} {calls : Nat} {v : Value} {ts : List Nat} {M : MapL} {vr vf : Value} {F : List Nat} {w w' : World} (h : OI C U mb cnt bT bD now w0 i inf st S calls v ts M vr vf F w)
    (g' : Chg w w' (fun k => k = C ∨ v.ownBlock = some k ∨ k ∈ ts ∨ k = mb ∨ k = cnt)) {k : Nat} {o : Obj} (hx : w.heap[k]? = some o) (hn : no [30, 73, 42, 1000, 3] o = true) : w'.heap[k]? = some o := by
  refine g'.heap (fun hk => ?_) hx
  rcases hk with e | e | e | e | e
  · subst e
    have := h.su.hq.clk
    rw [hx] at this
    cases this
    exact no_ne hn (t := 30) (by simp) rfl
  · rcases h.su.hq.own.2 with ⟨rfl, _⟩ | ⟨g, cap, cur, rfl, hb, hg, _⟩
    · cases e
    · cases e
      rw [hx] at hg
      cases hg
      exact no_ne hn (t := 42) (by simp) rfl
  · obtain ⟨j, hj, e'⟩ := List.getElem_of_mem e
    have := h.su.hq.tim j k (by rw [List.getElem?_eq_getElem hj, e'])
    unfold TimerAt at this
    rw [hx] at this
    cases this
    exact no_ne hn (t := 73) (by simp) rfl
  · subst e
    have := h.su.map
    unfold MapAt at this
    rw [hx] at this
    cases this
    exact no_ne hn (t := 1000) (by simp) rfl
  · subst e
    have := h.su.cn
    rw [hx] at this
    cases this
    exact no_ne hn (t := 3) (by simp) rfl

set_option maxRecDepth 20000 in
set_option maxHeartbeats 2000000 in
theorem law_any (A A' : Option Addr) (m m' Ca Ca' : Nat) (nw : Int) (kd ky : Nat → Nat) (dd : Nat → Int) (sa sp : Nat → Int) (sd : Nat → ByteArray) (w : World) (hA : OpsAt w w.heap.size A m kd ky dd) (hA' : SessAt w w.heap.size A' m' sa sp sd) (hkd : ∀ i, i < m → kd i < 256 ∧ ky i < 256) :
    Calls Yba.prog 3 #[.int .i64 nw, .slice A m Ca, .slice A' m' Ca'] w fun e w' => e = .returned (.bool true) ∧ Below w.heap.size w w' := by
  refine calls_of Yba.func3 rfl Yba.ntmps3 rfl ?_
  refine WC.seq (WC.region ?_)
  repeat (first | (refine WL.val ?_ ?_ (Runs.move rfl) ?_; rfl; rfl) | (refine WL.val ?_ ?_ (Runs.assign rfl) ?_; rfl; rfl) | (refine WL.val ?_ ?_ (Runs.extract rfl rfl) ?_; rfl; rfl) | (refine WL.val ?_ ?_ (Runs.nilCheck rfl) ?_; rfl; rfl) | (refine WL.val ?_ ?_ (Runs.pickT rfl rfl) ?_; rfl; rfl) | (refine WL.val ?_ ?_ (Runs.pickF rfl rfl) ?_; rfl; rfl) | (refine WL.val ?_ ?_ (Runs.len rfl sl22) ?_; rfl; rfl) | (refine WL.val ?_ ?_ (Runs.len rfl sl23) ?_; rfl; rfl) | (refine WL.val ?_ ?_ (Runs.len rfl sl27) ?_; rfl; rfl) | (refine WL.val ?_ ?_ (Runs.len rfl sl28) ?_; rfl; rfl) | (refine WL.val ?_ ?_ (Runs.len rfl sl39) ?_; rfl; rfl) | (refine WL.val ?_ ?_ (Runs.len rfl sl64) ?_; rfl; rfl) | (refine WL.val ?_ ?_ (Runs.len rfl sl68) ?_; rfl; rfl) | (refine WL.val ?_ ?_ (Runs.len rfl sl86) ?_; rfl; rfl) | (refine WL.val ?_ ?_ (Runs.len rfl sl113) ?_; rfl; rfl) | (refine WL.pass ?_ ?_ ?_; rfl; rfl))
  refine WL.nil ?_
  repeat (first | refine AtExit.thenRet ?_ | refine AtExit.thenExit ?_ | refine AtExit.blockRet ?_ | refine AtExit.blockEnd ?_ | refine AtExit.blockExit ?_ | (refine AtExit.blockPast ?_ ?_; rfl))
  refine AtExit.go ?_
  refine WC.seq ?_
  refine WC.seq (WC.region ?_)
  repeat (first | (refine WL.val ?_ ?_ (Runs.move rfl) ?_; rfl; rfl) | (refine WL.val ?_ ?_ (Runs.assign rfl) ?_; rfl; rfl) | (refine WL.val ?_ ?_ (Runs.extract rfl rfl) ?_; rfl; rfl) | (refine WL.val ?_ ?_ (Runs.nilCheck rfl) ?_; rfl; rfl) | (refine WL.val ?_ ?_ (Runs.pickT rfl rfl) ?_; rfl; rfl) | (refine WL.val ?_ ?_ (Runs.pickF rfl rfl) ?_; rfl; rfl) | (refine WL.val ?_ ?_ (Runs.len rfl sl22) ?_; rfl; rfl) | (refine WL.val ?_ ?_ (Runs.len rfl sl23) ?_; rfl; rfl) | (refine WL.val ?_ ?_ (Runs.len rfl sl27) ?_; rfl; rfl) | (refine WL.val ?_ ?_ (Runs.len rfl sl28) ?_; rfl; rfl) | (refine WL.val ?_ ?_ (Runs.len rfl sl39) ?_; rfl; rfl) | (refine WL.val ?_ ?_ (Runs.len rfl sl64) ?_; rfl; rfl) | (refine WL.val ?_ ?_ (Runs.len rfl sl68) ?_; rfl; rfl) | (refine WL.val ?_ ?_ (Runs.len rfl sl86) ?_; rfl; rfl) | (refine WL.val ?_ ?_ (Runs.len rfl sl113) ?_; rfl; rfl) | (refine WL.pass ?_ ?_ ?_; rfl; rfl))
  by_cases hm : m ≤ 4096
  case neg =>
    refine WL.val rfl rfl (Runs.gtr rfl rfl (r := true) (dtrue (by omega))) ?_
    repeat (first | (refine WL.val ?_ ?_ (Runs.move rfl) ?_; rfl; rfl) | (refine WL.val ?_ ?_ (Runs.assign rfl) ?_; rfl; rfl) | (refine WL.val ?_ ?_ (Runs.extract rfl rfl) ?_; rfl; rfl) | (refine WL.val ?_ ?_ (Runs.nilCheck rfl) ?_; rfl; rfl) | (refine WL.val ?_ ?_ (Runs.pickT rfl rfl) ?_; rfl; rfl) | (refine WL.val ?_ ?_ (Runs.pickF rfl rfl) ?_; rfl; rfl) | (refine WL.val ?_ ?_ (Runs.len rfl sl22) ?_; rfl; rfl) | (refine WL.val ?_ ?_ (Runs.len rfl sl23) ?_; rfl; rfl) | (refine WL.val ?_ ?_ (Runs.len rfl sl27) ?_; rfl; rfl) | (refine WL.val ?_ ?_ (Runs.len rfl sl28) ?_; rfl; rfl) | (refine WL.val ?_ ?_ (Runs.len rfl sl39) ?_; rfl; rfl) | (refine WL.val ?_ ?_ (Runs.len rfl sl64) ?_; rfl; rfl) | (refine WL.val ?_ ?_ (Runs.len rfl sl68) ?_; rfl; rfl) | (refine WL.val ?_ ?_ (Runs.len rfl sl86) ?_; rfl; rfl) | (refine WL.val ?_ ?_ (Runs.len rfl sl113) ?_; rfl; rfl) | (refine WL.pass ?_ ?_ ?_; rfl; rfl))
    refine WL.nil ?_
    repeat (first | refine AtExit.thenRet ?_ | refine AtExit.thenExit ?_ | refine AtExit.blockRet ?_ | refine AtExit.blockEnd ?_ | refine AtExit.blockExit ?_ | (refine AtExit.blockPast ?_ ?_; rfl))
    refine AtExit.go ?_
    refine WC.condT rfl ?_
    refine WC.seq (WC.region ?_)
    repeat (first | (refine WL.val ?_ ?_ (Runs.move rfl) ?_; rfl; rfl) | (refine WL.val ?_ ?_ (Runs.assign rfl) ?_; rfl; rfl) | (refine WL.val ?_ ?_ (Runs.extract rfl rfl) ?_; rfl; rfl) | (refine WL.val ?_ ?_ (Runs.nilCheck rfl) ?_; rfl; rfl) | (refine WL.val ?_ ?_ (Runs.pickT rfl rfl) ?_; rfl; rfl) | (refine WL.val ?_ ?_ (Runs.pickF rfl rfl) ?_; rfl; rfl) | (refine WL.val ?_ ?_ (Runs.len rfl sl22) ?_; rfl; rfl) | (refine WL.val ?_ ?_ (Runs.len rfl sl23) ?_; rfl; rfl) | (refine WL.val ?_ ?_ (Runs.len rfl sl27) ?_; rfl; rfl) | (refine WL.val ?_ ?_ (Runs.len rfl sl28) ?_; rfl; rfl) | (refine WL.val ?_ ?_ (Runs.len rfl sl39) ?_; rfl; rfl) | (refine WL.val ?_ ?_ (Runs.len rfl sl64) ?_; rfl; rfl) | (refine WL.val ?_ ?_ (Runs.len rfl sl68) ?_; rfl; rfl) | (refine WL.val ?_ ?_ (Runs.len rfl sl86) ?_; rfl; rfl) | (refine WL.val ?_ ?_ (Runs.len rfl sl113) ?_; rfl; rfl) | (refine WL.pass ?_ ?_ ?_; rfl; rfl))
    refine WL.nil ?_
    repeat (first | refine AtExit.thenRet ?_ | refine AtExit.thenExit ?_ | refine AtExit.blockRet ?_ | refine AtExit.blockEnd ?_ | refine AtExit.blockExit ?_ | (refine AtExit.blockPast ?_ ?_; rfl))
    refine AtExit.go ?_
    refine WC.ret ?_
    repeat (first | refine AtExit.thenRet ?_ | refine AtExit.thenExit ?_ | refine AtExit.blockRet ?_ | refine AtExit.blockEnd ?_ | refine AtExit.blockExit ?_ | (refine AtExit.blockPast ?_ ?_; rfl))
    exact post1 rfl rfl ⟨rfl, Below.refl _ _⟩
  refine WL.val rfl rfl (Runs.gtr rfl rfl (r := false) (dfalse (by omega))) ?_
  repeat (first | (refine WL.val ?_ ?_ (Runs.move rfl) ?_; rfl; rfl) | (refine WL.val ?_ ?_ (Runs.assign rfl) ?_; rfl; rfl) | (refine WL.val ?_ ?_ (Runs.extract rfl rfl) ?_; rfl; rfl) | (refine WL.val ?_ ?_ (Runs.nilCheck rfl) ?_; rfl; rfl) | (refine WL.val ?_ ?_ (Runs.pickT rfl rfl) ?_; rfl; rfl) | (refine WL.val ?_ ?_ (Runs.pickF rfl rfl) ?_; rfl; rfl) | (refine WL.val ?_ ?_ (Runs.len rfl sl22) ?_; rfl; rfl) | (refine WL.val ?_ ?_ (Runs.len rfl sl23) ?_; rfl; rfl) | (refine WL.val ?_ ?_ (Runs.len rfl sl27) ?_; rfl; rfl) | (refine WL.val ?_ ?_ (Runs.len rfl sl28) ?_; rfl; rfl) | (refine WL.val ?_ ?_ (Runs.len rfl sl39) ?_; rfl; rfl) | (refine WL.val ?_ ?_ (Runs.len rfl sl64) ?_; rfl; rfl) | (refine WL.val ?_ ?_ (Runs.len rfl sl68) ?_; rfl; rfl) | (refine WL.val ?_ ?_ (Runs.len rfl sl86) ?_; rfl; rfl) | (refine WL.val ?_ ?_ (Runs.len rfl sl113) ?_; rfl; rfl) | (refine WL.pass ?_ ?_ ?_; rfl; rfl))
  by_cases hm' : m' ≤ 4096
  case neg =>
    refine WL.val rfl rfl (Runs.gtr rfl rfl (r := true) (dtrue (by omega))) ?_
    repeat (first | (refine WL.val ?_ ?_ (Runs.move rfl) ?_; rfl; rfl) | (refine WL.val ?_ ?_ (Runs.assign rfl) ?_; rfl; rfl) | (refine WL.val ?_ ?_ (Runs.extract rfl rfl) ?_; rfl; rfl) | (refine WL.val ?_ ?_ (Runs.nilCheck rfl) ?_; rfl; rfl) | (refine WL.val ?_ ?_ (Runs.pickT rfl rfl) ?_; rfl; rfl) | (refine WL.val ?_ ?_ (Runs.pickF rfl rfl) ?_; rfl; rfl) | (refine WL.val ?_ ?_ (Runs.len rfl sl22) ?_; rfl; rfl) | (refine WL.val ?_ ?_ (Runs.len rfl sl23) ?_; rfl; rfl) | (refine WL.val ?_ ?_ (Runs.len rfl sl27) ?_; rfl; rfl) | (refine WL.val ?_ ?_ (Runs.len rfl sl28) ?_; rfl; rfl) | (refine WL.val ?_ ?_ (Runs.len rfl sl39) ?_; rfl; rfl) | (refine WL.val ?_ ?_ (Runs.len rfl sl64) ?_; rfl; rfl) | (refine WL.val ?_ ?_ (Runs.len rfl sl68) ?_; rfl; rfl) | (refine WL.val ?_ ?_ (Runs.len rfl sl86) ?_; rfl; rfl) | (refine WL.val ?_ ?_ (Runs.len rfl sl113) ?_; rfl; rfl) | (refine WL.pass ?_ ?_ ?_; rfl; rfl))
    refine WL.nil ?_
    repeat (first | refine AtExit.thenRet ?_ | refine AtExit.thenExit ?_ | refine AtExit.blockRet ?_ | refine AtExit.blockEnd ?_ | refine AtExit.blockExit ?_ | (refine AtExit.blockPast ?_ ?_; rfl))
    refine AtExit.go ?_
    refine WC.condT rfl ?_
    refine WC.seq (WC.region ?_)
    repeat (first | (refine WL.val ?_ ?_ (Runs.move rfl) ?_; rfl; rfl) | (refine WL.val ?_ ?_ (Runs.assign rfl) ?_; rfl; rfl) | (refine WL.val ?_ ?_ (Runs.extract rfl rfl) ?_; rfl; rfl) | (refine WL.val ?_ ?_ (Runs.nilCheck rfl) ?_; rfl; rfl) | (refine WL.val ?_ ?_ (Runs.pickT rfl rfl) ?_; rfl; rfl) | (refine WL.val ?_ ?_ (Runs.pickF rfl rfl) ?_; rfl; rfl) | (refine WL.val ?_ ?_ (Runs.len rfl sl22) ?_; rfl; rfl) | (refine WL.val ?_ ?_ (Runs.len rfl sl23) ?_; rfl; rfl) | (refine WL.val ?_ ?_ (Runs.len rfl sl27) ?_; rfl; rfl) | (refine WL.val ?_ ?_ (Runs.len rfl sl28) ?_; rfl; rfl) | (refine WL.val ?_ ?_ (Runs.len rfl sl39) ?_; rfl; rfl) | (refine WL.val ?_ ?_ (Runs.len rfl sl64) ?_; rfl; rfl) | (refine WL.val ?_ ?_ (Runs.len rfl sl68) ?_; rfl; rfl) | (refine WL.val ?_ ?_ (Runs.len rfl sl86) ?_; rfl; rfl) | (refine WL.val ?_ ?_ (Runs.len rfl sl113) ?_; rfl; rfl) | (refine WL.pass ?_ ?_ ?_; rfl; rfl))
    refine WL.nil ?_
    repeat (first | refine AtExit.thenRet ?_ | refine AtExit.thenExit ?_ | refine AtExit.blockRet ?_ | refine AtExit.blockEnd ?_ | refine AtExit.blockExit ?_ | (refine AtExit.blockPast ?_ ?_; rfl))
    refine AtExit.go ?_
    refine WC.ret ?_
    repeat (first | refine AtExit.thenRet ?_ | refine AtExit.thenExit ?_ | refine AtExit.blockRet ?_ | refine AtExit.blockEnd ?_ | refine AtExit.blockExit ?_ | (refine AtExit.blockPast ?_ ?_; rfl))
    exact post1 rfl rfl ⟨rfl, Below.refl _ _⟩
  refine WL.val rfl rfl (Runs.gtr rfl rfl (r := false) (dfalse (by omega))) ?_
  repeat (first | (refine WL.val ?_ ?_ (Runs.move rfl) ?_; rfl; rfl) | (refine WL.val ?_ ?_ (Runs.assign rfl) ?_; rfl; rfl) | (refine WL.val ?_ ?_ (Runs.extract rfl rfl) ?_; rfl; rfl) | (refine WL.val ?_ ?_ (Runs.nilCheck rfl) ?_; rfl; rfl) | (refine WL.val ?_ ?_ (Runs.pickT rfl rfl) ?_; rfl; rfl) | (refine WL.val ?_ ?_ (Runs.pickF rfl rfl) ?_; rfl; rfl) | (refine WL.val ?_ ?_ (Runs.len rfl sl22) ?_; rfl; rfl) | (refine WL.val ?_ ?_ (Runs.len rfl sl23) ?_; rfl; rfl) | (refine WL.val ?_ ?_ (Runs.len rfl sl27) ?_; rfl; rfl) | (refine WL.val ?_ ?_ (Runs.len rfl sl28) ?_; rfl; rfl) | (refine WL.val ?_ ?_ (Runs.len rfl sl39) ?_; rfl; rfl) | (refine WL.val ?_ ?_ (Runs.len rfl sl64) ?_; rfl; rfl) | (refine WL.val ?_ ?_ (Runs.len rfl sl68) ?_; rfl; rfl) | (refine WL.val ?_ ?_ (Runs.len rfl sl86) ?_; rfl; rfl) | (refine WL.val ?_ ?_ (Runs.len rfl sl113) ?_; rfl; rfl) | (refine WL.pass ?_ ?_ ?_; rfl; rfl))
  refine WL.nil ?_
  repeat (first | refine AtExit.thenRet ?_ | refine AtExit.thenExit ?_ | refine AtExit.blockRet ?_ | refine AtExit.blockEnd ?_ | refine AtExit.blockExit ?_ | (refine AtExit.blockPast ?_ ?_; rfl))
  refine AtExit.go ?_
  refine WC.condF rfl ?_
  refine WC.skip ?_
  repeat (first | refine AtExit.thenRet ?_ | refine AtExit.thenExit ?_ | refine AtExit.blockRet ?_ | refine AtExit.blockEnd ?_ | refine AtExit.blockExit ?_ | (refine AtExit.blockPast ?_ ?_; rfl))
  refine AtExit.go ?_
  refine WC.seq (WC.region ?_)
  repeat (first | (refine WL.val ?_ ?_ (Runs.move rfl) ?_; rfl; rfl) | (refine WL.val ?_ ?_ (Runs.assign rfl) ?_; rfl; rfl) | (refine WL.val ?_ ?_ (Runs.extract rfl rfl) ?_; rfl; rfl) | (refine WL.val ?_ ?_ (Runs.nilCheck rfl) ?_; rfl; rfl) | (refine WL.val ?_ ?_ (Runs.pickT rfl rfl) ?_; rfl; rfl) | (refine WL.val ?_ ?_ (Runs.pickF rfl rfl) ?_; rfl; rfl) | (refine WL.val ?_ ?_ (Runs.len rfl sl22) ?_; rfl; rfl) | (refine WL.val ?_ ?_ (Runs.len rfl sl23) ?_; rfl; rfl) | (refine WL.val ?_ ?_ (Runs.len rfl sl27) ?_; rfl; rfl) | (refine WL.val ?_ ?_ (Runs.len rfl sl28) ?_; rfl; rfl) | (refine WL.val ?_ ?_ (Runs.len rfl sl39) ?_; rfl; rfl) | (refine WL.val ?_ ?_ (Runs.len rfl sl64) ?_; rfl; rfl) | (refine WL.val ?_ ?_ (Runs.len rfl sl68) ?_; rfl; rfl) | (refine WL.val ?_ ?_ (Runs.len rfl sl86) ?_; rfl; rfl) | (refine WL.val ?_ ?_ (Runs.len rfl sl113) ?_; rfl; rfl) | (refine WL.pass ?_ ?_ ?_; rfl; rfl))
  refine WL.val rfl rfl (Runs.conv rfl (by rw [Yba.underlying2]; rfl) Yba.underlying25 rfl) ?_
  refine WL.val rfl rfl (Runs.rem rfl rfl (by decide) (r := nrm nw) rfl) ?_
  obtain ⟨hT0, hT1⟩ := nrm_bounds nw
  generalize nrm nw = now at hT0 hT1 ⊢
  refine WL.val rfl rfl (Runs.conv rfl (by rw [Yba.underlying25]; rfl) Yba.underlying24 (r := now) (wI rfl (by omega) (by omega))) ?_
  repeat (first | (refine WL.val ?_ ?_ (Runs.move rfl) ?_; rfl; rfl) | (refine WL.val ?_ ?_ (Runs.assign rfl) ?_; rfl; rfl) | (refine WL.val ?_ ?_ (Runs.extract rfl rfl) ?_; rfl; rfl) | (refine WL.val ?_ ?_ (Runs.nilCheck rfl) ?_; rfl; rfl) | (refine WL.val ?_ ?_ (Runs.pickT rfl rfl) ?_; rfl; rfl) | (refine WL.val ?_ ?_ (Runs.pickF rfl rfl) ?_; rfl; rfl) | (refine WL.val ?_ ?_ (Runs.len rfl sl22) ?_; rfl; rfl) | (refine WL.val ?_ ?_ (Runs.len rfl sl23) ?_; rfl; rfl) | (refine WL.val ?_ ?_ (Runs.len rfl sl27) ?_; rfl; rfl) | (refine WL.val ?_ ?_ (Runs.len rfl sl28) ?_; rfl; rfl) | (refine WL.val ?_ ?_ (Runs.len rfl sl39) ?_; rfl; rfl) | (refine WL.val ?_ ?_ (Runs.len rfl sl64) ?_; rfl; rfl) | (refine WL.val ?_ ?_ (Runs.len rfl sl68) ?_; rfl; rfl) | (refine WL.val ?_ ?_ (Runs.len rfl sl86) ?_; rfl; rfl) | (refine WL.val ?_ ?_ (Runs.len rfl sl113) ?_; rfl; rfl) | (refine WL.pass ?_ ?_ ?_; rfl; rfl))
  refine WL.nil ?_
  repeat (first | refine AtExit.thenRet ?_ | refine AtExit.thenExit ?_ | refine AtExit.blockRet ?_ | refine AtExit.blockEnd ?_ | refine AtExit.blockExit ?_ | (refine AtExit.blockPast ?_ ?_; rfl))
  refine AtExit.go ?_
  refine WC.seq (WC.region ?_)
  repeat (first | (refine WL.val ?_ ?_ (Runs.move rfl) ?_; rfl; rfl) | (refine WL.val ?_ ?_ (Runs.assign rfl) ?_; rfl; rfl) | (refine WL.val ?_ ?_ (Runs.extract rfl rfl) ?_; rfl; rfl) | (refine WL.val ?_ ?_ (Runs.nilCheck rfl) ?_; rfl; rfl) | (refine WL.val ?_ ?_ (Runs.pickT rfl rfl) ?_; rfl; rfl) | (refine WL.val ?_ ?_ (Runs.pickF rfl rfl) ?_; rfl; rfl) | (refine WL.val ?_ ?_ (Runs.len rfl sl22) ?_; rfl; rfl) | (refine WL.val ?_ ?_ (Runs.len rfl sl23) ?_; rfl; rfl) | (refine WL.val ?_ ?_ (Runs.len rfl sl27) ?_; rfl; rfl) | (refine WL.val ?_ ?_ (Runs.len rfl sl28) ?_; rfl; rfl) | (refine WL.val ?_ ?_ (Runs.len rfl sl39) ?_; rfl; rfl) | (refine WL.val ?_ ?_ (Runs.len rfl sl64) ?_; rfl; rfl) | (refine WL.val ?_ ?_ (Runs.len rfl sl68) ?_; rfl; rfl) | (refine WL.val ?_ ?_ (Runs.len rfl sl86) ?_; rfl; rfl) | (refine WL.val ?_ ?_ (Runs.len rfl sl113) ?_; rfl; rfl) | (refine WL.pass ?_ ?_ ?_; rfl; rfl))
  refine WL.val rfl rfl (Runs.build rfl (built30 now)) ?_
  refine WL.val rfl rfl (Runs.box rfl) ?_
  repeat (first | (refine WL.val ?_ ?_ (Runs.move rfl) ?_; rfl; rfl) | (refine WL.val ?_ ?_ (Runs.assign rfl) ?_; rfl; rfl) | (refine WL.val ?_ ?_ (Runs.extract rfl rfl) ?_; rfl; rfl) | (refine WL.val ?_ ?_ (Runs.nilCheck rfl) ?_; rfl; rfl) | (refine WL.val ?_ ?_ (Runs.pickT rfl rfl) ?_; rfl; rfl) | (refine WL.val ?_ ?_ (Runs.pickF rfl rfl) ?_; rfl; rfl) | (refine WL.val ?_ ?_ (Runs.len rfl sl22) ?_; rfl; rfl) | (refine WL.val ?_ ?_ (Runs.len rfl sl23) ?_; rfl; rfl) | (refine WL.val ?_ ?_ (Runs.len rfl sl27) ?_; rfl; rfl) | (refine WL.val ?_ ?_ (Runs.len rfl sl28) ?_; rfl; rfl) | (refine WL.val ?_ ?_ (Runs.len rfl sl39) ?_; rfl; rfl) | (refine WL.val ?_ ?_ (Runs.len rfl sl64) ?_; rfl; rfl) | (refine WL.val ?_ ?_ (Runs.len rfl sl68) ?_; rfl; rfl) | (refine WL.val ?_ ?_ (Runs.len rfl sl86) ?_; rfl; rfl) | (refine WL.val ?_ ?_ (Runs.len rfl sl113) ?_; rfl; rfl) | (refine WL.pass ?_ ?_ ?_; rfl; rfl))
  refine WL.nil ?_
  repeat (first | refine AtExit.thenRet ?_ | refine AtExit.thenExit ?_ | refine AtExit.blockRet ?_ | refine AtExit.blockEnd ?_ | refine AtExit.blockExit ?_ | (refine AtExit.blockPast ?_ ?_; rfl))
  refine AtExit.go ?_
  have b1 := below_new w (.cells (Value.agg #[.int .i64 now, .slice none 0 0, .int .u64 0]).cells 30) (Nat.le_refl _)
  have c1 := heap_new w (.cells (Value.agg #[.int .i64 now, .slice none 0 0, .int .u64 0]).cells 30)
  have z1 := size_new w (.cells (Value.agg #[.int .i64 now, .slice none 0 0, .int .u64 0]).cells 30)
  generalize w.alloc _ = w1 at b1 c1 z1 ⊢
  obtain ⟨C, hC⟩ : ∃ C, C = w.heap.size := ⟨_, rfl⟩
  have c1 : w1.heap[C]? = some (.cells #[.int .i64 now, .slice none 0 0, .int .u64 ((0 : Nat) : Int)] 30 (0, 0)) := by rw [hC]; exact c1
  rw [show Value.pointer (some ⟨w.heap.size, 0, none⟩) = pv C from by rw [hC]; rfl]
  refine WC.seq (WC.region ?_)
  refine WL.val rfl rfl (Runs.alloc in3) ?_
  refine WL.skip rfl (RunsS.store rfl rfl rfl sz3 (u := .int .i64 0) (by rw [cell_of (heap_new _ _)]; rfl) (frozen_of (heap_new _ _))) ?_
  refine WL.nil ?_
  repeat (first | refine AtExit.thenRet ?_ | refine AtExit.thenExit ?_ | refine AtExit.blockRet ?_ | refine AtExit.blockEnd ?_ | refine AtExit.blockExit ?_ | (refine AtExit.blockPast ?_ ?_; rfl))
  refine AtExit.go ?_
  have b2 := (below_new w1 (.cells (Value.int .i64 0).cells 3) (Nat.le_refl _)).trans (below_set (w1.alloc (.cells (Value.int .i64 0).cells 3)) (a := ⟨w1.heap.size, 0, none⟩) (.int .i64 0) (Nat.le_refl _))
  have d2 := heap_set (o := 0) (v := .int .i64 0) (heap_new w1 (.cells (Value.int .i64 0).cells 3))
  have z2 : ((w1.alloc (.cells (Value.int .i64 0).cells 3)).setCell ⟨w1.heap.size, 0, none⟩ (.int .i64 0)).heap.size = w1.heap.size + 1 := by rw [size_set, size_new]
  generalize (w1.alloc _).setCell _ _ = w2 at b2 d2 z2 ⊢
  obtain ⟨cnt, hcnt⟩ : ∃ C, C = w1.heap.size := ⟨_, rfl⟩
  have d2 : w2.heap[cnt]? = some (.cells #[.int .i64 ((0 : Nat) : Int)] 3 (0, 0)) := by rw [hcnt]; exact d2
  have c2 := below_heap b2 (lt_of_heap c1) c1
  rw [show Value.pointer (some ⟨w1.heap.size, 0, none⟩) = pv cnt from by rw [hcnt]; rfl]
  refine WC.seq (WC.region ?_)
  refine WL.val rfl rfl (Runs.mkFunc rfl) ?_
  repeat (first | (refine WL.val ?_ ?_ (Runs.move rfl) ?_; rfl; rfl) | (refine WL.val ?_ ?_ (Runs.assign rfl) ?_; rfl; rfl) | (refine WL.val ?_ ?_ (Runs.extract rfl rfl) ?_; rfl; rfl) | (refine WL.val ?_ ?_ (Runs.nilCheck rfl) ?_; rfl; rfl) | (refine WL.val ?_ ?_ (Runs.pickT rfl rfl) ?_; rfl; rfl) | (refine WL.val ?_ ?_ (Runs.pickF rfl rfl) ?_; rfl; rfl) | (refine WL.val ?_ ?_ (Runs.len rfl sl22) ?_; rfl; rfl) | (refine WL.val ?_ ?_ (Runs.len rfl sl23) ?_; rfl; rfl) | (refine WL.val ?_ ?_ (Runs.len rfl sl27) ?_; rfl; rfl) | (refine WL.val ?_ ?_ (Runs.len rfl sl28) ?_; rfl; rfl) | (refine WL.val ?_ ?_ (Runs.len rfl sl39) ?_; rfl; rfl) | (refine WL.val ?_ ?_ (Runs.len rfl sl64) ?_; rfl; rfl) | (refine WL.val ?_ ?_ (Runs.len rfl sl68) ?_; rfl; rfl) | (refine WL.val ?_ ?_ (Runs.len rfl sl86) ?_; rfl; rfl) | (refine WL.val ?_ ?_ (Runs.len rfl sl113) ?_; rfl; rfl) | (refine WL.pass ?_ ?_ ?_; rfl; rfl))
  refine WL.nil ?_
  repeat (first | refine AtExit.thenRet ?_ | refine AtExit.thenExit ?_ | refine AtExit.blockRet ?_ | refine AtExit.blockEnd ?_ | refine AtExit.blockExit ?_ | (refine AtExit.blockPast ?_ ?_; rfl))
  refine AtExit.go ?_
  refine WC.seq (WC.region ?_)
  repeat (first | (refine WL.val ?_ ?_ (Runs.move rfl) ?_; rfl; rfl) | (refine WL.val ?_ ?_ (Runs.assign rfl) ?_; rfl; rfl) | (refine WL.val ?_ ?_ (Runs.extract rfl rfl) ?_; rfl; rfl) | (refine WL.val ?_ ?_ (Runs.nilCheck rfl) ?_; rfl; rfl) | (refine WL.val ?_ ?_ (Runs.pickT rfl rfl) ?_; rfl; rfl) | (refine WL.val ?_ ?_ (Runs.pickF rfl rfl) ?_; rfl; rfl) | (refine WL.val ?_ ?_ (Runs.len rfl sl22) ?_; rfl; rfl) | (refine WL.val ?_ ?_ (Runs.len rfl sl23) ?_; rfl; rfl) | (refine WL.val ?_ ?_ (Runs.len rfl sl27) ?_; rfl; rfl) | (refine WL.val ?_ ?_ (Runs.len rfl sl28) ?_; rfl; rfl) | (refine WL.val ?_ ?_ (Runs.len rfl sl39) ?_; rfl; rfl) | (refine WL.val ?_ ?_ (Runs.len rfl sl64) ?_; rfl; rfl) | (refine WL.val ?_ ?_ (Runs.len rfl sl68) ?_; rfl; rfl) | (refine WL.val ?_ ?_ (Runs.len rfl sl86) ?_; rfl; rfl) | (refine WL.val ?_ ?_ (Runs.len rfl sl113) ?_; rfl; rfl) | (refine WL.pass ?_ ?_ ?_; rfl; rfl))
  refine WL.call rfl rfl (RunsC.call rfl en5) (newUE_any C cnt w2) ?_
  rintro e w3 ⟨rfl, hw3⟩
  refine ⟨_, rfl, ?_⟩
  have b3 : Below w2.heap.size w2 w3 := by rw [hw3]; exact Below.up (below_new w2 _ (Nat.le_refl _)) (below_new _ _ (Nat.le_refl _))
  have e3 : w3.heap[w2.heap.size]? = some (.map #[] 0) := by rw [hw3]; exact heap_old (heap_new w2 _)
  have u3 : w3.heap[w2.heap.size + 1]? = some (.cells (ueC C cnt w2.heap.size S0 false) 58 (0, 0)) := by rw [hw3, ← size_new w2 (.map #[] 0)]; exact heap_new _ _
  have z3 : w3.heap.size = w2.heap.size + 2 := by rw [hw3, size_new, size_new]
  clear hw3
  obtain ⟨mb, hmb⟩ : ∃ C, C = w2.heap.size := ⟨_, rfl⟩
  rw [← hmb] at e3 u3 ⊢
  obtain ⟨U, hU⟩ : ∃ C, C = mb + 1 := ⟨_, rfl⟩
  rw [← hU] at u3 ⊢
  have c3 := below_heap b3 (lt_of_heap c2) c2
  have d3 := below_heap b3 (lt_of_heap d2) d2
  repeat (first | (refine WL.val ?_ ?_ (Runs.move rfl) ?_; rfl; rfl) | (refine WL.val ?_ ?_ (Runs.assign rfl) ?_; rfl; rfl) | (refine WL.val ?_ ?_ (Runs.extract rfl rfl) ?_; rfl; rfl) | (refine WL.val ?_ ?_ (Runs.nilCheck rfl) ?_; rfl; rfl) | (refine WL.val ?_ ?_ (Runs.pickT rfl rfl) ?_; rfl; rfl) | (refine WL.val ?_ ?_ (Runs.pickF rfl rfl) ?_; rfl; rfl) | (refine WL.val ?_ ?_ (Runs.len rfl sl22) ?_; rfl; rfl) | (refine WL.val ?_ ?_ (Runs.len rfl sl23) ?_; rfl; rfl) | (refine WL.val ?_ ?_ (Runs.len rfl sl27) ?_; rfl; rfl) | (refine WL.val ?_ ?_ (Runs.len rfl sl28) ?_; rfl; rfl) | (refine WL.val ?_ ?_ (Runs.len rfl sl39) ?_; rfl; rfl) | (refine WL.val ?_ ?_ (Runs.len rfl sl64) ?_; rfl; rfl) | (refine WL.val ?_ ?_ (Runs.len rfl sl68) ?_; rfl; rfl) | (refine WL.val ?_ ?_ (Runs.len rfl sl86) ?_; rfl; rfl) | (refine WL.val ?_ ?_ (Runs.len rfl sl113) ?_; rfl; rfl) | (refine WL.pass ?_ ?_ ?_; rfl; rfl))
  refine WL.nil ?_
  repeat (first | refine AtExit.thenRet ?_ | refine AtExit.thenExit ?_ | refine AtExit.blockRet ?_ | refine AtExit.blockEnd ?_ | refine AtExit.blockExit ?_ | (refine AtExit.blockPast ?_ ?_; rfl))
  refine AtExit.go ?_
  refine WC.seq (WC.region ?_)
  refine WL.val rfl rfl (Runs.build rfl built37) ?_
  refine WL.val rfl rfl (Runs.alloc in37) ?_
  refine WL.skip rfl (RunsS.storeRow rfl rfl (by simp [tabT, Value.oneCell']) sz37 (heap_new _ _) rfl) ?_
  refine WL.nil ?_
  repeat (first | refine AtExit.thenRet ?_ | refine AtExit.thenExit ?_ | refine AtExit.blockRet ?_ | refine AtExit.blockEnd ?_ | refine AtExit.blockExit ?_ | (refine AtExit.blockPast ?_ ?_; rfl))
  refine AtExit.go ?_
  obtain ⟨b4, t4, z4⟩ := newVar w3 (Value.agg #[.string ⟨#[]⟩, .string ⟨#[]⟩, .string ⟨#[]⟩]).cells tabT 37
  generalize (w3.alloc _).setRow _ _ = w4 at b4 t4 z4 ⊢
  obtain ⟨bT, hbT⟩ : ∃ C, C = w3.heap.size := ⟨_, rfl⟩
  rw [← hbT] at t4 ⊢
  have c4 := below_heap b4 (lt_of_heap c3) c3
  have d4 := below_heap b4 (lt_of_heap d3) d3
  have e4 := below_heap b4 (lt_of_heap e3) e3
  have u4 := below_heap b4 (lt_of_heap u3) u3
  refine WC.seq (WC.region ?_)
  refine WL.val rfl rfl (Runs.build rfl built38) ?_
  refine WL.val rfl rfl (Runs.alloc in38) ?_
  refine WL.skip rfl (RunsS.storeRow rfl rfl (by simp [tabD, Value.oneCell']) sz38 (heap_new _ _) rfl) ?_
  refine WL.nil ?_
  repeat (first | refine AtExit.thenRet ?_ | refine AtExit.thenExit ?_ | refine AtExit.blockRet ?_ | refine AtExit.blockEnd ?_ | refine AtExit.blockExit ?_ | (refine AtExit.blockPast ?_ ?_; rfl))
  refine AtExit.go ?_
  obtain ⟨b5, t5, z5⟩ := newVar w4 (Value.agg #[.string ⟨#[]⟩, .string ⟨#[]⟩, .string ⟨#[]⟩]).cells tabD 38
  generalize (w4.alloc _).setRow _ _ = w5 at b5 t5 z5 ⊢
  obtain ⟨bD, hbD⟩ : ∃ C, C = w4.heap.size := ⟨_, rfl⟩
  rw [← hbD] at t5 ⊢
  have c5 := below_heap b5 (lt_of_heap c4) c4
  have d5 := below_heap b5 (lt_of_heap d4) d4
  have e5 := below_heap b5 (lt_of_heap e4) e4
  have u5 := below_heap b5 (lt_of_heap u4) u4
  have s5 := below_heap b5 (lt_of_heap t4) t4
  have bel5 : Below w.heap.size w w5 := Below.up b1 (Below.up b2 (Below.up b3 (Below.up b4 b5)))
  have hBs : w.heap.size ≤ C ∧ w.heap.size ≤ mb ∧ w.heap.size ≤ cnt ∧ w.heap.size ≤ U := by omega
  clear c1 c2 c3 c4 d2 d3 d4 e3 e4 u3 u4 t4 b1 b2 b3 b4 b5 z1 z2 z3 z4 z5
  clear hU hmb hcnt hbT hbD
  refine WC.seq (WC.region ?_)
  repeat (first | (refine WL.val ?_ ?_ (Runs.move rfl) ?_; rfl; rfl) | (refine WL.val ?_ ?_ (Runs.assign rfl) ?_; rfl; rfl) | (refine WL.val ?_ ?_ (Runs.extract rfl rfl) ?_; rfl; rfl) | (refine WL.val ?_ ?_ (Runs.nilCheck rfl) ?_; rfl; rfl) | (refine WL.val ?_ ?_ (Runs.pickT rfl rfl) ?_; rfl; rfl) | (refine WL.val ?_ ?_ (Runs.pickF rfl rfl) ?_; rfl; rfl) | (refine WL.val ?_ ?_ (Runs.len rfl sl22) ?_; rfl; rfl) | (refine WL.val ?_ ?_ (Runs.len rfl sl23) ?_; rfl; rfl) | (refine WL.val ?_ ?_ (Runs.len rfl sl27) ?_; rfl; rfl) | (refine WL.val ?_ ?_ (Runs.len rfl sl28) ?_; rfl; rfl) | (refine WL.val ?_ ?_ (Runs.len rfl sl39) ?_; rfl; rfl) | (refine WL.val ?_ ?_ (Runs.len rfl sl64) ?_; rfl; rfl) | (refine WL.val ?_ ?_ (Runs.len rfl sl68) ?_; rfl; rfl) | (refine WL.val ?_ ?_ (Runs.len rfl sl86) ?_; rfl; rfl) | (refine WL.val ?_ ?_ (Runs.len rfl sl113) ?_; rfl; rfl) | (refine WL.pass ?_ ?_ ?_; rfl; rfl))
  refine WL.nil ?_
  repeat (first | refine AtExit.thenRet ?_ | refine AtExit.thenExit ?_ | refine AtExit.blockRet ?_ | refine AtExit.blockEnd ?_ | refine AtExit.blockExit ?_ | (refine AtExit.blockPast ?_ ?_; rfl))
  refine AtExit.go ?_
  refine WC.seq (WC.region ?_)
  repeat (first | (refine WL.val ?_ ?_ (Runs.move rfl) ?_; rfl; rfl) | (refine WL.val ?_ ?_ (Runs.assign rfl) ?_; rfl; rfl) | (refine WL.val ?_ ?_ (Runs.extract rfl rfl) ?_; rfl; rfl) | (refine WL.val ?_ ?_ (Runs.nilCheck rfl) ?_; rfl; rfl) | (refine WL.val ?_ ?_ (Runs.pickT rfl rfl) ?_; rfl; rfl) | (refine WL.val ?_ ?_ (Runs.pickF rfl rfl) ?_; rfl; rfl) | (refine WL.val ?_ ?_ (Runs.len rfl sl22) ?_; rfl; rfl) | (refine WL.val ?_ ?_ (Runs.len rfl sl23) ?_; rfl; rfl) | (refine WL.val ?_ ?_ (Runs.len rfl sl27) ?_; rfl; rfl) | (refine WL.val ?_ ?_ (Runs.len rfl sl28) ?_; rfl; rfl) | (refine WL.val ?_ ?_ (Runs.len rfl sl39) ?_; rfl; rfl) | (refine WL.val ?_ ?_ (Runs.len rfl sl64) ?_; rfl; rfl) | (refine WL.val ?_ ?_ (Runs.len rfl sl68) ?_; rfl; rfl) | (refine WL.val ?_ ?_ (Runs.len rfl sl86) ?_; rfl; rfl) | (refine WL.val ?_ ?_ (Runs.len rfl sl113) ?_; rfl; rfl) | (refine WL.pass ?_ ?_ ?_; rfl; rfl))
  refine WL.nil ?_
  repeat (first | refine AtExit.thenRet ?_ | refine AtExit.thenExit ?_ | refine AtExit.blockRet ?_ | refine AtExit.blockEnd ?_ | refine AtExit.blockExit ?_ | (refine AtExit.blockPast ?_ ?_; rfl))
  refine AtExit.go ?_
  refine WC.seq (WC.region ?_)
  repeat (first | (refine WL.val ?_ ?_ (Runs.move rfl) ?_; rfl; rfl) | (refine WL.val ?_ ?_ (Runs.assign rfl) ?_; rfl; rfl) | (refine WL.val ?_ ?_ (Runs.extract rfl rfl) ?_; rfl; rfl) | (refine WL.val ?_ ?_ (Runs.nilCheck rfl) ?_; rfl; rfl) | (refine WL.val ?_ ?_ (Runs.pickT rfl rfl) ?_; rfl; rfl) | (refine WL.val ?_ ?_ (Runs.pickF rfl rfl) ?_; rfl; rfl) | (refine WL.val ?_ ?_ (Runs.len rfl sl22) ?_; rfl; rfl) | (refine WL.val ?_ ?_ (Runs.len rfl sl23) ?_; rfl; rfl) | (refine WL.val ?_ ?_ (Runs.len rfl sl27) ?_; rfl; rfl) | (refine WL.val ?_ ?_ (Runs.len rfl sl28) ?_; rfl; rfl) | (refine WL.val ?_ ?_ (Runs.len rfl sl39) ?_; rfl; rfl) | (refine WL.val ?_ ?_ (Runs.len rfl sl64) ?_; rfl; rfl) | (refine WL.val ?_ ?_ (Runs.len rfl sl68) ?_; rfl; rfl) | (refine WL.val ?_ ?_ (Runs.len rfl sl86) ?_; rfl; rfl) | (refine WL.val ?_ ?_ (Runs.len rfl sl113) ?_; rfl; rfl) | (refine WL.pass ?_ ?_ ?_; rfl; rfl))
  refine WL.nil ?_
  repeat (first | refine AtExit.thenRet ?_ | refine AtExit.thenExit ?_ | refine AtExit.blockRet ?_ | refine AtExit.blockEnd ?_ | refine AtExit.blockExit ?_ | (refine AtExit.blockPast ?_ ?_; rfl))
  refine AtExit.go ?_
  have I0 : OI C U mb cnt bT bD now w 0 (fun _ => ⟨0, 0, .nilFunc⟩) 0 S0 0 (.slice none 0 0) [] [] (.slice none 0 0) (.slice none 0 0) [] w5 :=
    ⟨⟨⟨c5, ⟨rfl, Or.inl ⟨rfl, rfl⟩⟩, fun i t h => by simp at h, List.nodup_nil⟩, u5, S0_len, e5, d5⟩,
     ⟨fun p hp => (by cases hp), List.nodup_nil, fun j x t h => (by simp at h), fun j j' x x' t h => (by simp at h), fun t ht => (by cases ht)⟩,
     OwnA.nil entC_len, OwnA.nil fC_len, List.Perm.refl _, fun k hk => (by cases hk), ⟨Nat.le_refl _, Nat.le_refl _⟩, rfl, fun t ht => (by cases ht), fun t ht => (by cases ht), s5, t5, bel5, Nat.zero_le _⟩
  clear hC c5 d5 e5 u5 s5 t5 bel5
  -- the steps
  refine WC.cut (α := (Nat → TI) × Nat × Nat × Value × List Nat × MapL × Value × Value × List Nat)
    (fun | (_, st, _, _, _, _, vr, vf, _) => [(2, .slice A' m' Ca'), (7, .int .i64 now), (8, pv C), (9, pv cnt), (11, pv U), (14, vr), (15, vf), (16, .int .i64 (st : Int))])
    (fun | (inf, st, calls, v, ts, M, vr, vf, F) => fun w' => OI C U mb cnt bT bD now w m inf st S0 calls v ts M vr vf F w') ?_ ?_
  · refine WC.seq (WC.region ?_)
    repeat (first | (refine WL.val ?_ ?_ (Runs.move rfl) ?_; rfl; rfl) | (refine WL.val ?_ ?_ (Runs.assign rfl) ?_; rfl; rfl) | (refine WL.val ?_ ?_ (Runs.extract rfl rfl) ?_; rfl; rfl) | (refine WL.val ?_ ?_ (Runs.nilCheck rfl) ?_; rfl; rfl) | (refine WL.val ?_ ?_ (Runs.pickT rfl rfl) ?_; rfl; rfl) | (refine WL.val ?_ ?_ (Runs.pickF rfl rfl) ?_; rfl; rfl) | (refine WL.val ?_ ?_ (Runs.len rfl sl22) ?_; rfl; rfl) | (refine WL.val ?_ ?_ (Runs.len rfl sl23) ?_; rfl; rfl) | (refine WL.val ?_ ?_ (Runs.len rfl sl27) ?_; rfl; rfl) | (refine WL.val ?_ ?_ (Runs.len rfl sl28) ?_; rfl; rfl) | (refine WL.val ?_ ?_ (Runs.len rfl sl39) ?_; rfl; rfl) | (refine WL.val ?_ ?_ (Runs.len rfl sl64) ?_; rfl; rfl) | (refine WL.val ?_ ?_ (Runs.len rfl sl68) ?_; rfl; rfl) | (refine WL.val ?_ ?_ (Runs.len rfl sl86) ?_; rfl; rfl) | (refine WL.val ?_ ?_ (Runs.len rfl sl113) ?_; rfl; rfl) | (refine WL.pass ?_ ?_ ?_; rfl; rfl))
    refine WL.nil ?_
    repeat (first | refine AtExit.thenRet ?_ | refine AtExit.thenExit ?_ | refine AtExit.blockRet ?_ | refine AtExit.blockEnd ?_ | refine AtExit.blockExit ?_ | (refine AtExit.blockPast ?_ ?_; rfl))
    refine AtExit.go ?_
    refine WC.block ?_
    refine WC.loop (α := Nat × (Nat → TI) × Nat × Nat × Value × List Nat × MapL × Value × Value × List Nat)
      (fun | (i, _, st, _, _, _, _, vr, vf, _) => [(1, .slice A m Ca), (2, .slice A' m' Ca'), (7, .int .i64 now), (8, pv C), (9, pv cnt), (11, pv U), (12, pv bT), (13, pv bD), (14, vr), (15, vf), (16, .int .i64 (st : Int)), (17, .int .i64 (i : Int))])
      (fun | (i, inf, st, calls, v, ts, M, vr, vf, F) => fun w' => i ≤ m ∧ OI C U mb cnt bT bD now w i inf st S0 calls v ts M vr vf F w') (fun | (i, _) => m - i)
      (0, (fun _ => ⟨0, 0, .nilFunc⟩), 0, 0, .slice none 0 0, [], [], .slice none 0 0, .slice none 0 0, []) (by repeat (first | exact Sub.nil _ | refine Sub.cons rfl ?_)) ⟨Nat.zero_le _, I0⟩ ?_
    clear I0
    rintro ⟨i, inf, st, calls, v, ts, M, vr, vf, F⟩ w6 ⟨him, I6⟩
    refine WC.seq ?_
    refine WC.seq (WC.region ?_)
    repeat (first | (refine WL.val ?_ ?_ (Runs.move rfl) ?_; rfl; rfl) | (refine WL.val ?_ ?_ (Runs.assign rfl) ?_; rfl; rfl) | (refine WL.val ?_ ?_ (Runs.extract rfl rfl) ?_; rfl; rfl) | (refine WL.val ?_ ?_ (Runs.nilCheck rfl) ?_; rfl; rfl) | (refine WL.val ?_ ?_ (Runs.pickT rfl rfl) ?_; rfl; rfl) | (refine WL.val ?_ ?_ (Runs.pickF rfl rfl) ?_; rfl; rfl) | (refine WL.val ?_ ?_ (Runs.len rfl sl22) ?_; rfl; rfl) | (refine WL.val ?_ ?_ (Runs.len rfl sl23) ?_; rfl; rfl) | (refine WL.val ?_ ?_ (Runs.len rfl sl27) ?_; rfl; rfl) | (refine WL.val ?_ ?_ (Runs.len rfl sl28) ?_; rfl; rfl) | (refine WL.val ?_ ?_ (Runs.len rfl sl39) ?_; rfl; rfl) | (refine WL.val ?_ ?_ (Runs.len rfl sl64) ?_; rfl; rfl) | (refine WL.val ?_ ?_ (Runs.len rfl sl68) ?_; rfl; rfl) | (refine WL.val ?_ ?_ (Runs.len rfl sl86) ?_; rfl; rfl) | (refine WL.val ?_ ?_ (Runs.len rfl sl113) ?_; rfl; rfl) | (refine WL.pass ?_ ?_ ?_; rfl; rfl))
    by_cases hi : i < m
    case neg =>
      refine WL.val rfl rfl (Runs.lss rfl rfl (decge hi)) ?_
      refine WL.nil ?_
      repeat (first | refine AtExit.thenRet ?_ | refine AtExit.thenExit ?_ | refine AtExit.blockRet ?_ | refine AtExit.blockEnd ?_ | refine AtExit.blockExit ?_ | (refine AtExit.blockPast ?_ ?_; rfl))
      refine AtExit.go ?_
      refine WC.condF rfl ?_
      refine WC.exit ?_
      repeat (first | refine AtExit.thenRet ?_ | refine AtExit.thenExit ?_ | refine AtExit.blockRet ?_ | refine AtExit.blockEnd ?_ | refine AtExit.blockExit ?_ | (refine AtExit.blockPast ?_ ?_; rfl))
      have him' : i = m := by omega
      subst him'
      refine AtExit.inv fun av hv => ⟨(inf, st, calls, v, ts, M, vr, vf, F), hv.sub (by repeat (first | exact Sub.nil _ | refine Sub.cons rfl ?_)), I6⟩
    refine WL.val rfl rfl (Runs.lss rfl rfl (declt hi)) ?_
    refine WL.nil ?_
    repeat (first | refine AtExit.thenRet ?_ | refine AtExit.thenExit ?_ | refine AtExit.blockRet ?_ | refine AtExit.blockEnd ?_ | refine AtExit.blockExit ?_ | (refine AtExit.blockPast ?_ ?_; rfl))
    refine AtExit.go ?_
    refine WC.condT rfl ?_
    refine WC.skip ?_
    repeat (first | refine AtExit.thenRet ?_ | refine AtExit.thenExit ?_ | refine AtExit.blockRet ?_ | refine AtExit.blockEnd ?_ | refine AtExit.blockExit ?_ | (refine AtExit.blockPast ?_ ?_; rfl))
    refine AtExit.go ?_
    obtain ⟨hk1, hk2⟩ := hkd i hi
    obtain ⟨ab, ao, hAe, habB, a0, a1, a2⟩ := hA.below I6.bel i hi
    refine WC.cut (α := (Nat → TI) × Nat × Nat × Value × List Nat × MapL × Value × Value × List Nat)
      (fun | (_, st, _, _, _, _, vr, vf, _) => [(1, .slice A m Ca), (2, .slice A' m' Ca'), (7, .int .i64 now), (8, pv C), (9, pv cnt), (11, pv U), (12, pv bT), (13, pv bD), (14, vr), (15, vf), (16, .int .i64 (st : Int)), (17, .int .i64 (i : Int))])
      (fun | (inf, st, calls, v, ts, M, vr, vf, F) => fun w' => OI C U mb cnt bT bD now w (i + 1) inf st S0 calls v ts M vr vf F w') ?_ ?_
    case refine_2 =>
      rintro ⟨inf, st, calls, v, ts, M, vr, vf, F⟩ w7 I7
      refine WC.region ?_
      repeat (first | (refine WL.val ?_ ?_ (Runs.move rfl) ?_; rfl; rfl) | (refine WL.val ?_ ?_ (Runs.assign rfl) ?_; rfl; rfl) | (refine WL.val ?_ ?_ (Runs.extract rfl rfl) ?_; rfl; rfl) | (refine WL.val ?_ ?_ (Runs.nilCheck rfl) ?_; rfl; rfl) | (refine WL.val ?_ ?_ (Runs.pickT rfl rfl) ?_; rfl; rfl) | (refine WL.val ?_ ?_ (Runs.pickF rfl rfl) ?_; rfl; rfl) | (refine WL.val ?_ ?_ (Runs.len rfl sl22) ?_; rfl; rfl) | (refine WL.val ?_ ?_ (Runs.len rfl sl23) ?_; rfl; rfl) | (refine WL.val ?_ ?_ (Runs.len rfl sl27) ?_; rfl; rfl) | (refine WL.val ?_ ?_ (Runs.len rfl sl28) ?_; rfl; rfl) | (refine WL.val ?_ ?_ (Runs.len rfl sl39) ?_; rfl; rfl) | (refine WL.val ?_ ?_ (Runs.len rfl sl64) ?_; rfl; rfl) | (refine WL.val ?_ ?_ (Runs.len rfl sl68) ?_; rfl; rfl) | (refine WL.val ?_ ?_ (Runs.len rfl sl86) ?_; rfl; rfl) | (refine WL.val ?_ ?_ (Runs.len rfl sl113) ?_; rfl; rfl) | (refine WL.pass ?_ ?_ ?_; rfl; rfl))
      refine WL.val rfl rfl (Runs.add rfl rfl (r := ((i + 1 : Nat) : Int)) (wI (by omega) (by omega) (by omega))) ?_
      repeat (first | (refine WL.val ?_ ?_ (Runs.move rfl) ?_; rfl; rfl) | (refine WL.val ?_ ?_ (Runs.assign rfl) ?_; rfl; rfl) | (refine WL.val ?_ ?_ (Runs.extract rfl rfl) ?_; rfl; rfl) | (refine WL.val ?_ ?_ (Runs.nilCheck rfl) ?_; rfl; rfl) | (refine WL.val ?_ ?_ (Runs.pickT rfl rfl) ?_; rfl; rfl) | (refine WL.val ?_ ?_ (Runs.pickF rfl rfl) ?_; rfl; rfl) | (refine WL.val ?_ ?_ (Runs.len rfl sl22) ?_; rfl; rfl) | (refine WL.val ?_ ?_ (Runs.len rfl sl23) ?_; rfl; rfl) | (refine WL.val ?_ ?_ (Runs.len rfl sl27) ?_; rfl; rfl) | (refine WL.val ?_ ?_ (Runs.len rfl sl28) ?_; rfl; rfl) | (refine WL.val ?_ ?_ (Runs.len rfl sl39) ?_; rfl; rfl) | (refine WL.val ?_ ?_ (Runs.len rfl sl64) ?_; rfl; rfl) | (refine WL.val ?_ ?_ (Runs.len rfl sl68) ?_; rfl; rfl) | (refine WL.val ?_ ?_ (Runs.len rfl sl86) ?_; rfl; rfl) | (refine WL.val ?_ ?_ (Runs.len rfl sl113) ?_; rfl; rfl) | (refine WL.pass ?_ ?_ ?_; rfl; rfl))
      refine WL.nil ?_
      repeat (first | refine AtExit.thenRet ?_ | refine AtExit.thenExit ?_ | refine AtExit.blockRet ?_ | refine AtExit.blockEnd ?_ | refine AtExit.blockExit ?_ | (refine AtExit.blockPast ?_ ?_; rfl))
      refine AtExit.inv fun av hv => ⟨(i + 1, inf, st, calls, v, ts, M, vr, vf, F), hv.sub (by repeat (first | exact Sub.nil _ | refine Sub.cons rfl ?_)), ⟨by omega, I7⟩, by show m - (i + 1) < m - i; omega⟩
    refine WC.block ?_
    refine WC.seq (WC.region ?_)
    repeat (first | (refine WL.val ?_ ?_ (Runs.move rfl) ?_; rfl; rfl) | (refine WL.val ?_ ?_ (Runs.assign rfl) ?_; rfl; rfl) | (refine WL.val ?_ ?_ (Runs.extract rfl rfl) ?_; rfl; rfl) | (refine WL.val ?_ ?_ (Runs.nilCheck rfl) ?_; rfl; rfl) | (refine WL.val ?_ ?_ (Runs.pickT rfl rfl) ?_; rfl; rfl) | (refine WL.val ?_ ?_ (Runs.pickF rfl rfl) ?_; rfl; rfl) | (refine WL.val ?_ ?_ (Runs.len rfl sl22) ?_; rfl; rfl) | (refine WL.val ?_ ?_ (Runs.len rfl sl23) ?_; rfl; rfl) | (refine WL.val ?_ ?_ (Runs.len rfl sl27) ?_; rfl; rfl) | (refine WL.val ?_ ?_ (Runs.len rfl sl28) ?_; rfl; rfl) | (refine WL.val ?_ ?_ (Runs.len rfl sl39) ?_; rfl; rfl) | (refine WL.val ?_ ?_ (Runs.len rfl sl64) ?_; rfl; rfl) | (refine WL.val ?_ ?_ (Runs.len rfl sl68) ?_; rfl; rfl) | (refine WL.val ?_ ?_ (Runs.len rfl sl86) ?_; rfl; rfl) | (refine WL.val ?_ ?_ (Runs.len rfl sl113) ?_; rfl; rfl) | (refine WL.pass ?_ ?_ ?_; rfl; rfl))
    refine WL.val rfl rfl (Runs.idxK hAe rfl rfl Yba.underlying22 sz41 rfl hi) ?_
    refine WL.val rfl rfl (Runs.loadAgg (cs := [.int .u8 (kd i : Int), .int .u8 (ky i : Int), .int .i64 (dd i)]) rfl na41 sz41 (three_cells a0 a1 a2)) ?_
    refine WL.val rfl rfl (Runs.alloc in41) ?_
    refine WL.skip rfl (RunsS.storeRow rfl rfl (by simp [Value.oneCell']) sz41 (heap_new _ _) rfl) ?_
    refine WL.nil ?_
    repeat (first | refine AtExit.thenRet ?_ | refine AtExit.thenExit ?_ | refine AtExit.blockRet ?_ | refine AtExit.blockEnd ?_ | refine AtExit.blockExit ?_ | (refine AtExit.blockPast ?_ ?_; rfl))
    refine AtExit.go ?_
    obtain ⟨b7, t7, z7⟩ := newVar w6 (Value.agg #[.int .u8 0, .int .u8 0, .int .i64 0]).cells [Value.int .u8 (kd i : Int), .int .u8 (ky i : Int), .int .i64 (dd i)].toArray 41
    generalize (w6.alloc _).setRow _ _ = w7 at b7 t7 z7 ⊢
    obtain ⟨bo, hbo⟩ : ∃ C, C = w6.heap.size := ⟨_, rfl⟩
    rw [← hbo] at t7 ⊢
    have I7 := I6.below b7
    clear I6 a0 a1 a2 b7 z7 hbo hAe
    refine WC.seq (WC.region ?_)
    refine WL.val rfl rfl (Runs.fld rfl fl41_2) ?_
    refine WL.val rfl rfl (Runs.load rfl na2 (v := .int .i64 (dd i)) (by rw [cell_of t7]; rfl)) ?_
    refine WL.val rfl rfl (Runs.conv rfl (by rw [Yba.underlying2]; rfl) Yba.underlying25 rfl) ?_
    refine WL.val rfl rfl (Runs.rem rfl rfl (by decide) (r := nrm (dd i)) rfl) ?_
    obtain ⟨hd0, hd1⟩ := nrm_bounds (dd i)
    generalize nrm (dd i) = d at hd0 hd1 ⊢
    refine WL.val rfl rfl (Runs.conv rfl (by rw [Yba.underlying25]; rfl) Yba.underlying24 (r := d) (wI rfl (by omega) (by omega))) ?_
    repeat (first | (refine WL.val ?_ ?_ (Runs.move rfl) ?_; rfl; rfl) | (refine WL.val ?_ ?_ (Runs.assign rfl) ?_; rfl; rfl) | (refine WL.val ?_ ?_ (Runs.extract rfl rfl) ?_; rfl; rfl) | (refine WL.val ?_ ?_ (Runs.nilCheck rfl) ?_; rfl; rfl) | (refine WL.val ?_ ?_ (Runs.pickT rfl rfl) ?_; rfl; rfl) | (refine WL.val ?_ ?_ (Runs.pickF rfl rfl) ?_; rfl; rfl) | (refine WL.val ?_ ?_ (Runs.len rfl sl22) ?_; rfl; rfl) | (refine WL.val ?_ ?_ (Runs.len rfl sl23) ?_; rfl; rfl) | (refine WL.val ?_ ?_ (Runs.len rfl sl27) ?_; rfl; rfl) | (refine WL.val ?_ ?_ (Runs.len rfl sl28) ?_; rfl; rfl) | (refine WL.val ?_ ?_ (Runs.len rfl sl39) ?_; rfl; rfl) | (refine WL.val ?_ ?_ (Runs.len rfl sl64) ?_; rfl; rfl) | (refine WL.val ?_ ?_ (Runs.len rfl sl68) ?_; rfl; rfl) | (refine WL.val ?_ ?_ (Runs.len rfl sl86) ?_; rfl; rfl) | (refine WL.val ?_ ?_ (Runs.len rfl sl113) ?_; rfl; rfl) | (refine WL.pass ?_ ?_ ?_; rfl; rfl))
    refine WL.nil ?_
    repeat (first | refine AtExit.thenRet ?_ | refine AtExit.thenExit ?_ | refine AtExit.blockRet ?_ | refine AtExit.blockEnd ?_ | refine AtExit.blockExit ?_ | (refine AtExit.blockPast ?_ ?_; rfl))
    refine AtExit.go ?_
    refine WC.seq (WC.region ?_)
    refine WL.val rfl rfl (Runs.fld rfl fl41_0) ?_
    refine WL.val rfl rfl (Runs.load rfl na5 (v := .int .u8 (kd i : Int)) (by rw [cell_of t7]; rfl)) ?_
    refine WL.val rfl rfl (Runs.rem rfl rfl (by decide) (r := ((kd i % 3 : Nat) : Int)) (by rw [Int.tmod_eq_emod_of_nonneg (by omega)]; omega)) ?_
    repeat (first | (refine WL.val ?_ ?_ (Runs.move rfl) ?_; rfl; rfl) | (refine WL.val ?_ ?_ (Runs.assign rfl) ?_; rfl; rfl) | (refine WL.val ?_ ?_ (Runs.extract rfl rfl) ?_; rfl; rfl) | (refine WL.val ?_ ?_ (Runs.nilCheck rfl) ?_; rfl; rfl) | (refine WL.val ?_ ?_ (Runs.pickT rfl rfl) ?_; rfl; rfl) | (refine WL.val ?_ ?_ (Runs.pickF rfl rfl) ?_; rfl; rfl) | (refine WL.val ?_ ?_ (Runs.len rfl sl22) ?_; rfl; rfl) | (refine WL.val ?_ ?_ (Runs.len rfl sl23) ?_; rfl; rfl) | (refine WL.val ?_ ?_ (Runs.len rfl sl27) ?_; rfl; rfl) | (refine WL.val ?_ ?_ (Runs.len rfl sl28) ?_; rfl; rfl) | (refine WL.val ?_ ?_ (Runs.len rfl sl39) ?_; rfl; rfl) | (refine WL.val ?_ ?_ (Runs.len rfl sl64) ?_; rfl; rfl) | (refine WL.val ?_ ?_ (Runs.len rfl sl68) ?_; rfl; rfl) | (refine WL.val ?_ ?_ (Runs.len rfl sl86) ?_; rfl; rfl) | (refine WL.val ?_ ?_ (Runs.len rfl sl113) ?_; rfl; rfl) | (refine WL.pass ?_ ?_ ?_; rfl; rfl))
    refine WL.nil ?_
    repeat (first | refine AtExit.thenRet ?_ | refine AtExit.thenExit ?_ | refine AtExit.blockRet ?_ | refine AtExit.blockEnd ?_ | refine AtExit.blockExit ?_ | (refine AtExit.blockPast ?_ ?_; rfl))
    refine AtExit.go ?_
    have hst : st ≤ i := I7.bd.1
    have hcl : calls ≤ i := I7.bd.2
    have htl : ts.length = st := I7.tl
    refine WC.seq ?_
    refine WC.seq (WC.region ?_)
    repeat (first | (refine WL.val ?_ ?_ (Runs.move rfl) ?_; rfl; rfl) | (refine WL.val ?_ ?_ (Runs.assign rfl) ?_; rfl; rfl) | (refine WL.val ?_ ?_ (Runs.extract rfl rfl) ?_; rfl; rfl) | (refine WL.val ?_ ?_ (Runs.nilCheck rfl) ?_; rfl; rfl) | (refine WL.val ?_ ?_ (Runs.pickT rfl rfl) ?_; rfl; rfl) | (refine WL.val ?_ ?_ (Runs.pickF rfl rfl) ?_; rfl; rfl) | (refine WL.val ?_ ?_ (Runs.len rfl sl22) ?_; rfl; rfl) | (refine WL.val ?_ ?_ (Runs.len rfl sl23) ?_; rfl; rfl) | (refine WL.val ?_ ?_ (Runs.len rfl sl27) ?_; rfl; rfl) | (refine WL.val ?_ ?_ (Runs.len rfl sl28) ?_; rfl; rfl) | (refine WL.val ?_ ?_ (Runs.len rfl sl39) ?_; rfl; rfl) | (refine WL.val ?_ ?_ (Runs.len rfl sl64) ?_; rfl; rfl) | (refine WL.val ?_ ?_ (Runs.len rfl sl68) ?_; rfl; rfl) | (refine WL.val ?_ ?_ (Runs.len rfl sl86) ?_; rfl; rfl) | (refine WL.val ?_ ?_ (Runs.len rfl sl113) ?_; rfl; rfl) | (refine WL.pass ?_ ?_ ?_; rfl; rfl))
    by_cases hk0 : kd i % 3 = 0
    · refine WL.val rfl rfl (Runs.eql rfl rfl (r := true) (dtrue (by omega))) ?_
      refine WL.nil ?_
      repeat (first | refine AtExit.thenRet ?_ | refine AtExit.thenExit ?_ | refine AtExit.blockRet ?_ | refine AtExit.blockEnd ?_ | refine AtExit.blockExit ?_ | (refine AtExit.blockPast ?_ ?_; rfl))
      refine AtExit.go ?_
      refine WC.condT rfl ?_
      refine WC.seq (WC.region ?_)
      repeat (first | (refine WL.val ?_ ?_ (Runs.move rfl) ?_; rfl; rfl) | (refine WL.val ?_ ?_ (Runs.assign rfl) ?_; rfl; rfl) | (refine WL.val ?_ ?_ (Runs.extract rfl rfl) ?_; rfl; rfl) | (refine WL.val ?_ ?_ (Runs.nilCheck rfl) ?_; rfl; rfl) | (refine WL.val ?_ ?_ (Runs.pickT rfl rfl) ?_; rfl; rfl) | (refine WL.val ?_ ?_ (Runs.pickF rfl rfl) ?_; rfl; rfl) | (refine WL.val ?_ ?_ (Runs.len rfl sl22) ?_; rfl; rfl) | (refine WL.val ?_ ?_ (Runs.len rfl sl23) ?_; rfl; rfl) | (refine WL.val ?_ ?_ (Runs.len rfl sl27) ?_; rfl; rfl) | (refine WL.val ?_ ?_ (Runs.len rfl sl28) ?_; rfl; rfl) | (refine WL.val ?_ ?_ (Runs.len rfl sl39) ?_; rfl; rfl) | (refine WL.val ?_ ?_ (Runs.len rfl sl64) ?_; rfl; rfl) | (refine WL.val ?_ ?_ (Runs.len rfl sl68) ?_; rfl; rfl) | (refine WL.val ?_ ?_ (Runs.len rfl sl86) ?_; rfl; rfl) | (refine WL.val ?_ ?_ (Runs.len rfl sl113) ?_; rfl; rfl) | (refine WL.pass ?_ ?_ ?_; rfl; rfl))
      refine WL.call rfl rfl (RunsC.call rfl en6) (start_any I7.su.hq I7.bel.size (by omega) d (.func (.func 7) #[] #[]) hd0 hd1 hT0 hT1 (by omega) (built73 _ _ _ _ _ _)) ?_
      rintro e w8 ⟨rfl, z8, v8, ts8, q8, p8, g8, loc8⟩
      refine ⟨_, rfl, ?_⟩
      obtain ⟨vf9, w9, r9, I9⟩ := I7.foreign hBs.1 (by omega) hd0 hd1 q8 p8 g8 loc8
      refine WL.val rfl rfl (Runs.slice1 rfl rfl Yba.underlying27 in42 rfl) ?_
      refine WL.val rfl rfl (Runs.append rfl r9) ?_
      repeat (first | (refine WL.val ?_ ?_ (Runs.move rfl) ?_; rfl; rfl) | (refine WL.val ?_ ?_ (Runs.assign rfl) ?_; rfl; rfl) | (refine WL.val ?_ ?_ (Runs.extract rfl rfl) ?_; rfl; rfl) | (refine WL.val ?_ ?_ (Runs.nilCheck rfl) ?_; rfl; rfl) | (refine WL.val ?_ ?_ (Runs.pickT rfl rfl) ?_; rfl; rfl) | (refine WL.val ?_ ?_ (Runs.pickF rfl rfl) ?_; rfl; rfl) | (refine WL.val ?_ ?_ (Runs.len rfl sl22) ?_; rfl; rfl) | (refine WL.val ?_ ?_ (Runs.len rfl sl23) ?_; rfl; rfl) | (refine WL.val ?_ ?_ (Runs.len rfl sl27) ?_; rfl; rfl) | (refine WL.val ?_ ?_ (Runs.len rfl sl28) ?_; rfl; rfl) | (refine WL.val ?_ ?_ (Runs.len rfl sl39) ?_; rfl; rfl) | (refine WL.val ?_ ?_ (Runs.len rfl sl64) ?_; rfl; rfl) | (refine WL.val ?_ ?_ (Runs.len rfl sl68) ?_; rfl; rfl) | (refine WL.val ?_ ?_ (Runs.len rfl sl86) ?_; rfl; rfl) | (refine WL.val ?_ ?_ (Runs.len rfl sl113) ?_; rfl; rfl) | (refine WL.pass ?_ ?_ ?_; rfl; rfl))
      refine WL.nil ?_
      repeat (first | refine AtExit.thenRet ?_ | refine AtExit.thenExit ?_ | refine AtExit.blockRet ?_ | refine AtExit.blockEnd ?_ | refine AtExit.blockExit ?_ | (refine AtExit.blockPast ?_ ?_; rfl))
      refine AtExit.go ?_
      refine WC.seq (WC.region ?_)
      repeat (first | (refine WL.val ?_ ?_ (Runs.move rfl) ?_; rfl; rfl) | (refine WL.val ?_ ?_ (Runs.assign rfl) ?_; rfl; rfl) | (refine WL.val ?_ ?_ (Runs.extract rfl rfl) ?_; rfl; rfl) | (refine WL.val ?_ ?_ (Runs.nilCheck rfl) ?_; rfl; rfl) | (refine WL.val ?_ ?_ (Runs.pickT rfl rfl) ?_; rfl; rfl) | (refine WL.val ?_ ?_ (Runs.pickF rfl rfl) ?_; rfl; rfl) | (refine WL.val ?_ ?_ (Runs.len rfl sl22) ?_; rfl; rfl) | (refine WL.val ?_ ?_ (Runs.len rfl sl23) ?_; rfl; rfl) | (refine WL.val ?_ ?_ (Runs.len rfl sl27) ?_; rfl; rfl) | (refine WL.val ?_ ?_ (Runs.len rfl sl28) ?_; rfl; rfl) | (refine WL.val ?_ ?_ (Runs.len rfl sl39) ?_; rfl; rfl) | (refine WL.val ?_ ?_ (Runs.len rfl sl64) ?_; rfl; rfl) | (refine WL.val ?_ ?_ (Runs.len rfl sl68) ?_; rfl; rfl) | (refine WL.val ?_ ?_ (Runs.len rfl sl86) ?_; rfl; rfl) | (refine WL.val ?_ ?_ (Runs.len rfl sl113) ?_; rfl; rfl) | (refine WL.pass ?_ ?_ ?_; rfl; rfl))
      refine WL.val rfl rfl (Runs.add rfl rfl (r := ((st + 1 : Nat) : Int)) (wI (by omega) (by omega) (by omega))) ?_
      repeat (first | (refine WL.val ?_ ?_ (Runs.move rfl) ?_; rfl; rfl) | (refine WL.val ?_ ?_ (Runs.assign rfl) ?_; rfl; rfl) | (refine WL.val ?_ ?_ (Runs.extract rfl rfl) ?_; rfl; rfl) | (refine WL.val ?_ ?_ (Runs.nilCheck rfl) ?_; rfl; rfl) | (refine WL.val ?_ ?_ (Runs.pickT rfl rfl) ?_; rfl; rfl) | (refine WL.val ?_ ?_ (Runs.pickF rfl rfl) ?_; rfl; rfl) | (refine WL.val ?_ ?_ (Runs.len rfl sl22) ?_; rfl; rfl) | (refine WL.val ?_ ?_ (Runs.len rfl sl23) ?_; rfl; rfl) | (refine WL.val ?_ ?_ (Runs.len rfl sl27) ?_; rfl; rfl) | (refine WL.val ?_ ?_ (Runs.len rfl sl28) ?_; rfl; rfl) | (refine WL.val ?_ ?_ (Runs.len rfl sl39) ?_; rfl; rfl) | (refine WL.val ?_ ?_ (Runs.len rfl sl64) ?_; rfl; rfl) | (refine WL.val ?_ ?_ (Runs.len rfl sl68) ?_; rfl; rfl) | (refine WL.val ?_ ?_ (Runs.len rfl sl86) ?_; rfl; rfl) | (refine WL.val ?_ ?_ (Runs.len rfl sl113) ?_; rfl; rfl) | (refine WL.pass ?_ ?_ ?_; rfl; rfl))
      refine WL.nil ?_
      repeat (first | refine AtExit.thenRet ?_ | refine AtExit.thenExit ?_ | refine AtExit.blockRet ?_ | refine AtExit.blockEnd ?_ | refine AtExit.blockExit ?_ | (refine AtExit.blockPast ?_ ?_; rfl))
      refine AtExit.go ?_
      refine WC.exit ?_
      repeat (first | refine AtExit.thenRet ?_ | refine AtExit.thenExit ?_ | refine AtExit.blockRet ?_ | refine AtExit.blockEnd ?_ | refine AtExit.blockExit ?_ | (refine AtExit.blockPast ?_ ?_; rfl))
      refine AtExit.inv fun av hv => ⟨(_, st + 1, calls, v8, ts8, M, vr, vf9, _), hv.sub (by repeat (first | exact Sub.nil _ | refine Sub.cons rfl ?_)), I9⟩
    refine WL.val rfl rfl (Runs.eql rfl rfl (r := false) (dfalse (by omega))) ?_
    refine WL.nil ?_
    repeat (first | refine AtExit.thenRet ?_ | refine AtExit.thenExit ?_ | refine AtExit.blockRet ?_ | refine AtExit.blockEnd ?_ | refine AtExit.blockExit ?_ | (refine AtExit.blockPast ?_ ?_; rfl))
    refine AtExit.go ?_
    refine WC.condF rfl ?_
    refine WC.skip ?_
    repeat (first | refine AtExit.thenRet ?_ | refine AtExit.thenExit ?_ | refine AtExit.blockRet ?_ | refine AtExit.blockEnd ?_ | refine AtExit.blockExit ?_ | (refine AtExit.blockPast ?_ ?_; rfl))
    refine AtExit.go ?_
    have hbd : Below w7.heap.size w7 w7.drew := below_drawn _ _ _
    have I8 := I7.below hbd
    have t8 : w7.drew.heap[bo]? = some (.cells [Value.int .u8 (kd i : Int), .int .u8 (ky i : Int), .int .i64 (dd i)].toArray 41 (0, 0)) := t7
    refine WC.seq (WC.held (fun wq => wq.heap[bo]? = some (.cells [Value.int .u8 (kd i : Int), .int .u8 (ky i : Int), .int .i64 (dd i)].toArray 41 (0, 0)) ∧ wq.heap[bT]? = some (.cells tabT 37 (0, 0)) ∧ wq.heap[bD]? = some (.cells tabD 38 (0, 0))) mixed rfl ?_)
    generalize w7.drew = w8 at I8 t8 ⊢
    have hS8 : w8.heap[bo]? = some (.cells [Value.int .u8 (kd i : Int), .int .u8 (ky i : Int), .int .i64 (dd i)].toArray 41 (0, 0)) ∧ w8.heap[bT]? = some (.cells tabT 37 (0, 0)) ∧ w8.heap[bD]? = some (.cells tabD 38 (0, 0)) := ⟨t8, I8.tT, I8.tD⟩
    have km := keyOf_mod (ky i)
    have kv' := keyOf_div (ky i)
    have hx9 := keyOf_lt (ky i)
    generalize keyOf (ky i) = x at km kv' hx9 ⊢
    refine HL.take 0 rfl (by kernel_rfl) (by kernel_rfl) (by kernel_rfl) (fun _ _ _ h => h) rfl rfl (fun wq hC => Runs.fld rfl fl41_1) (by assumption) ?_
    refine HL.take 1 rfl (by kernel_rfl) (by kernel_rfl) (by kernel_rfl) (fun _ _ _ h => h) rfl rfl (fun wq hC => Runs.load rfl na5 (v := .int .u8 (ky i : Int)) (by rw [cell_of hC.1]; rfl)) (by assumption) ?_
    refine HL.take 2 rfl (by kernel_rfl) (by kernel_rfl) (by kernel_rfl) (fun _ _ _ h => h) rfl rfl (fun wq hC => Runs.conv rfl (by rw [Yba.underlying5]; rfl) Yba.underlying3 (r := (ky i : Int)) (wI rfl (by omega) (by omega))) (by assumption) ?_
    refine HL.take 3 rfl (by kernel_rfl) (by kernel_rfl) (by kernel_rfl) (fun _ _ _ h => h) rfl rfl (fun wq hC => Runs.rem rfl rfl (by decide) (r := ((x % 3 : Nat) : Int)) (by rw [Int.tmod_eq_emod_of_nonneg (by omega)]; omega)) (by assumption) ?_
    refine HL.take 4 rfl (by kernel_rfl) (by kernel_rfl) (by kernel_rfl) (fun _ _ _ h => h) rfl rfl (fun wq hC => Runs.idxArr rfl rfl und37 sz36 rfl (m := x % 3) (by omega)) (by assumption) ?_
    refine HL.take 5 rfl (by kernel_rfl) (by kernel_rfl) (by kernel_rfl) (fun _ _ _ h => h) rfl rfl (fun wq hC => Runs.load rfl na36 (v := .string (tB (x % 3))) (by rw [cell_of hC.2.1, Nat.zero_add, Nat.mul_one]; exact tabT_at _ (by omega))) (by assumption) ?_
    refine HL.take 6 rfl (by kernel_rfl) (by kernel_rfl) (by kernel_rfl) (fun _ _ _ h => h) rfl rfl (fun wq hC => Runs.fld rfl fl41_1) (by assumption) ?_
    refine HL.take 7 rfl (by kernel_rfl) (by kernel_rfl) (by kernel_rfl) (fun _ _ _ h => h) rfl rfl (fun wq hC => Runs.load rfl na5 (v := .int .u8 (ky i : Int)) (by rw [cell_of hC.1]; rfl)) (by assumption) ?_
    refine HL.take 8 rfl (by kernel_rfl) (by kernel_rfl) (by kernel_rfl) (fun _ _ _ h => h) rfl rfl (fun wq hC => Runs.quo rfl rfl (by decide) (r := ((ky i / 3 : Nat) : Int)) (by rw [Int.tdiv_eq_ediv_of_nonneg (by omega), IntKind.wrap_u8]; omega)) (by assumption) ?_
    refine HL.take 9 rfl (by kernel_rfl) (by kernel_rfl) (by kernel_rfl) (fun _ _ _ h => h) rfl rfl (fun wq hC => Runs.conv rfl (by rw [Yba.underlying5]; rfl) Yba.underlying3 (r := ((ky i / 3 : Nat) : Int)) (wI rfl (by omega) (by omega))) (by assumption) ?_
    refine HL.take 10 rfl (by kernel_rfl) (by kernel_rfl) (by kernel_rfl) (fun _ _ _ h => h) rfl rfl (fun wq hC => Runs.rem rfl rfl (by decide) (r := ((x / 3 : Nat) : Int)) (by rw [Int.tmod_eq_emod_of_nonneg (by omega)]; omega)) (by assumption) ?_
    refine HL.take 11 rfl (by kernel_rfl) (by kernel_rfl) (by kernel_rfl) (fun _ _ _ h => h) rfl rfl (fun wq hC => Runs.idxArr rfl rfl und38 sz9 rfl (m := x / 3) (by omega)) (by assumption) ?_
    refine HL.take 12 rfl (by kernel_rfl) (by kernel_rfl) (by kernel_rfl) (fun _ _ _ h => h) rfl rfl (fun wq hC => Runs.load rfl na9 (v := .string (dB (x / 3))) (by rw [cell_of hC.2.2, Nat.zero_add, Nat.mul_one]; exact tabD_at _ (by omega))) (by assumption) ?_
    refine HL.take 13 rfl (by kernel_rfl) (by kernel_rfl) (by kernel_rfl) (fun _ _ _ h => h) rfl rfl (fun wq hC => Runs.build rfl (built48' x)) (by assumption) ?_
    have ba := below_new w8 (.cells (Value.agg #[.string ⟨#[]⟩, .string ⟨#[]⟩, .int .u8 0, .int .u32 0, .bool false, .bool false]).cells 48) (Nat.le_refl _)
    obtain ⟨b9, x9, z9⟩ := newVar w8 (Value.agg #[.string ⟨#[]⟩, .string ⟨#[]⟩, .int .u8 0, .int .u32 0, .bool false, .bool false]).cells (kc x).toArray 48
    have I9 := I8.below b9
    refine HL.all1 (i := 14) (by kernel_rfl) ?_
    refine HO.val rfl rfl rfl (Runs.alloc in48) ⟨below_heap ba (lt_of_heap t8) t8, below_heap ba (lt_of_heap I8.tT) I8.tT, below_heap ba (lt_of_heap I8.tD) I8.tD⟩ ?_
    refine HL.all1 (i := 15) (by kernel_rfl) ?_
    refine HO.skip rfl rfl (RunsS.storeRow rfl rfl (one48 x) sz48 (heap_new _ _) rfl) ⟨below_heap b9 (lt_of_heap t8) t8, I9.tT, I9.tD⟩ ?_
    refine HL.done (by kernel_rfl) ?_
    repeat (first | refine AtExit.thenRet ?_ | refine AtExit.thenExit ?_ | refine AtExit.blockRet ?_ | refine AtExit.blockEnd ?_ | refine AtExit.blockExit ?_ | (refine AtExit.blockPast ?_ ?_; rfl))
    refine AtExit.go ?_
    generalize (w8.alloc _).setRow _ _ = w9 at b9 x9 z9 I9 ⊢
    obtain ⟨bk, hbk⟩ : ∃ C, C = w8.heap.size := ⟨_, rfl⟩
    rw [← hbk] at x9 ⊢
    clear I7 I8 hS8 t7 t8 b9 z9 ba hbd hbk
    have hbd : Below w9.heap.size w9 w9.drew := below_drawn _ _ _
    have I10 := I9.below hbd
    have x10 : w9.drew.heap[bk]? = some (.cells (kc x).toArray 48 (0, 0)) := x9
    clear I9 x9 hbd
    refine WC.seq ?_
    refine WC.seq (WC.still 10 mixed (by kernel_rfl) ?_)
    generalize w9.drew = w10 at I10 x10 ⊢
    repeat (first | (refine SL.val ?_ ?_ (Runs.move rfl) ?_; rfl; rfl) | (refine SL.val ?_ ?_ (Runs.assign rfl) ?_; rfl; rfl) | (refine SL.val ?_ ?_ (Runs.extract rfl rfl) ?_; rfl; rfl) | (refine SL.val ?_ ?_ (Runs.nilCheck rfl) ?_; rfl; rfl) | (refine SL.val ?_ ?_ (Runs.pickT rfl rfl) ?_; rfl; rfl) | (refine SL.val ?_ ?_ (Runs.pickF rfl rfl) ?_; rfl; rfl) | (refine SL.val ?_ ?_ (Runs.len rfl sl22) ?_; rfl; rfl) | (refine SL.val ?_ ?_ (Runs.len rfl sl23) ?_; rfl; rfl) | (refine SL.val ?_ ?_ (Runs.len rfl sl27) ?_; rfl; rfl) | (refine SL.val ?_ ?_ (Runs.len rfl sl28) ?_; rfl; rfl) | (refine SL.val ?_ ?_ (Runs.len rfl sl39) ?_; rfl; rfl) | (refine SL.val ?_ ?_ (Runs.len rfl sl64) ?_; rfl; rfl) | (refine SL.val ?_ ?_ (Runs.len rfl sl68) ?_; rfl; rfl) | (refine SL.val ?_ ?_ (Runs.len rfl sl86) ?_; rfl; rfl) | (refine SL.val ?_ ?_ (Runs.len rfl sl113) ?_; rfl; rfl) | (refine SL.pass ?_ ?_ ?_; rfl; rfl))
    refine SL.val rfl rfl (Runs.fld rfl fl58_3) ?_
    refine SL.val rfl rfl (Runs.load rfl na56 (v := .map (some mb)) (by rw [cell_of I10.su.ue]; exact ue130 I10.su.sl)) ?_
    refine SL.val rfl rfl (Runs.loadAgg (cs := kc x) rfl na48 sz48 (fun j v hv => by rw [cell_of x10, Nat.zero_add]; exact (List.getElem?_toArray).trans hv)) ?_
    refine SL.val rfl rfl (Runs.lookup rfl rfl hx9 I10.ok.K I10.su.map) ?_
    cases hlk : lookM x M with
    | some o =>
      repeat (first | (refine SL.val ?_ ?_ (Runs.move rfl) ?_; rfl; rfl) | (refine SL.val ?_ ?_ (Runs.assign rfl) ?_; rfl; rfl) | (refine SL.val ?_ ?_ (Runs.extract rfl rfl) ?_; rfl; rfl) | (refine SL.val ?_ ?_ (Runs.nilCheck rfl) ?_; rfl; rfl) | (refine SL.val ?_ ?_ (Runs.pickT rfl rfl) ?_; rfl; rfl) | (refine SL.val ?_ ?_ (Runs.pickF rfl rfl) ?_; rfl; rfl) | (refine SL.val ?_ ?_ (Runs.len rfl sl22) ?_; rfl; rfl) | (refine SL.val ?_ ?_ (Runs.len rfl sl23) ?_; rfl; rfl) | (refine SL.val ?_ ?_ (Runs.len rfl sl27) ?_; rfl; rfl) | (refine SL.val ?_ ?_ (Runs.len rfl sl28) ?_; rfl; rfl) | (refine SL.val ?_ ?_ (Runs.len rfl sl39) ?_; rfl; rfl) | (refine SL.val ?_ ?_ (Runs.len rfl sl64) ?_; rfl; rfl) | (refine SL.val ?_ ?_ (Runs.len rfl sl68) ?_; rfl; rfl) | (refine SL.val ?_ ?_ (Runs.len rfl sl86) ?_; rfl; rfl) | (refine SL.val ?_ ?_ (Runs.len rfl sl113) ?_; rfl; rfl) | (refine SL.pass ?_ ?_ ?_; rfl; rfl))
      refine SL.nil ?_
      repeat (first | (refine WL.val ?_ ?_ (Runs.move rfl) ?_; rfl; rfl) | (refine WL.val ?_ ?_ (Runs.assign rfl) ?_; rfl; rfl) | (refine WL.val ?_ ?_ (Runs.extract rfl rfl) ?_; rfl; rfl) | (refine WL.val ?_ ?_ (Runs.nilCheck rfl) ?_; rfl; rfl) | (refine WL.val ?_ ?_ (Runs.pickT rfl rfl) ?_; rfl; rfl) | (refine WL.val ?_ ?_ (Runs.pickF rfl rfl) ?_; rfl; rfl) | (refine WL.val ?_ ?_ (Runs.len rfl sl22) ?_; rfl; rfl) | (refine WL.val ?_ ?_ (Runs.len rfl sl23) ?_; rfl; rfl) | (refine WL.val ?_ ?_ (Runs.len rfl sl27) ?_; rfl; rfl) | (refine WL.val ?_ ?_ (Runs.len rfl sl28) ?_; rfl; rfl) | (refine WL.val ?_ ?_ (Runs.len rfl sl39) ?_; rfl; rfl) | (refine WL.val ?_ ?_ (Runs.len rfl sl64) ?_; rfl; rfl) | (refine WL.val ?_ ?_ (Runs.len rfl sl68) ?_; rfl; rfl) | (refine WL.val ?_ ?_ (Runs.len rfl sl86) ?_; rfl; rfl) | (refine WL.val ?_ ?_ (Runs.len rfl sl113) ?_; rfl; rfl) | (refine WL.pass ?_ ?_ ?_; rfl; rfl))
      refine WL.nil ?_
      repeat (first | refine AtExit.thenRet ?_ | refine AtExit.thenExit ?_ | refine AtExit.blockRet ?_ | refine AtExit.blockEnd ?_ | refine AtExit.blockExit ?_ | (refine AtExit.blockPast ?_ ?_; rfl))
      refine AtExit.go ?_
      refine WC.seq (WC.region ?_)
      repeat (first | (refine WL.val ?_ ?_ (Runs.move rfl) ?_; rfl; rfl) | (refine WL.val ?_ ?_ (Runs.assign rfl) ?_; rfl; rfl) | (refine WL.val ?_ ?_ (Runs.extract rfl rfl) ?_; rfl; rfl) | (refine WL.val ?_ ?_ (Runs.nilCheck rfl) ?_; rfl; rfl) | (refine WL.val ?_ ?_ (Runs.pickT rfl rfl) ?_; rfl; rfl) | (refine WL.val ?_ ?_ (Runs.pickF rfl rfl) ?_; rfl; rfl) | (refine WL.val ?_ ?_ (Runs.len rfl sl22) ?_; rfl; rfl) | (refine WL.val ?_ ?_ (Runs.len rfl sl23) ?_; rfl; rfl) | (refine WL.val ?_ ?_ (Runs.len rfl sl27) ?_; rfl; rfl) | (refine WL.val ?_ ?_ (Runs.len rfl sl28) ?_; rfl; rfl) | (refine WL.val ?_ ?_ (Runs.len rfl sl39) ?_; rfl; rfl) | (refine WL.val ?_ ?_ (Runs.len rfl sl64) ?_; rfl; rfl) | (refine WL.val ?_ ?_ (Runs.len rfl sl68) ?_; rfl; rfl) | (refine WL.val ?_ ?_ (Runs.len rfl sl86) ?_; rfl; rfl) | (refine WL.val ?_ ?_ (Runs.len rfl sl113) ?_; rfl; rfl) | (refine WL.pass ?_ ?_ ?_; rfl; rfl))
      refine WL.nil ?_
      repeat (first | refine AtExit.thenRet ?_ | refine AtExit.thenExit ?_ | refine AtExit.blockRet ?_ | refine AtExit.blockEnd ?_ | refine AtExit.blockExit ?_ | (refine AtExit.blockPast ?_ ?_; rfl))
      refine AtExit.go ?_
      refine WC.condT rfl ?_
      refine WC.exit ?_
      repeat (first | refine AtExit.thenRet ?_ | refine AtExit.thenExit ?_ | refine AtExit.blockRet ?_ | refine AtExit.blockEnd ?_ | refine AtExit.blockExit ?_ | (refine AtExit.blockPast ?_ ?_; rfl))
      refine AtExit.inv fun av hv => ⟨(inf, st, calls, v, ts, M, vr, vf, F), hv.sub (by repeat (first | exact Sub.nil _ | refine Sub.cons rfl ?_)), I10.next⟩
    | none =>
      repeat (first | (refine SL.val ?_ ?_ (Runs.move rfl) ?_; rfl; rfl) | (refine SL.val ?_ ?_ (Runs.assign rfl) ?_; rfl; rfl) | (refine SL.val ?_ ?_ (Runs.extract rfl rfl) ?_; rfl; rfl) | (refine SL.val ?_ ?_ (Runs.nilCheck rfl) ?_; rfl; rfl) | (refine SL.val ?_ ?_ (Runs.pickT rfl rfl) ?_; rfl; rfl) | (refine SL.val ?_ ?_ (Runs.pickF rfl rfl) ?_; rfl; rfl) | (refine SL.val ?_ ?_ (Runs.len rfl sl22) ?_; rfl; rfl) | (refine SL.val ?_ ?_ (Runs.len rfl sl23) ?_; rfl; rfl) | (refine SL.val ?_ ?_ (Runs.len rfl sl27) ?_; rfl; rfl) | (refine SL.val ?_ ?_ (Runs.len rfl sl28) ?_; rfl; rfl) | (refine SL.val ?_ ?_ (Runs.len rfl sl39) ?_; rfl; rfl) | (refine SL.val ?_ ?_ (Runs.len rfl sl64) ?_; rfl; rfl) | (refine SL.val ?_ ?_ (Runs.len rfl sl68) ?_; rfl; rfl) | (refine SL.val ?_ ?_ (Runs.len rfl sl86) ?_; rfl; rfl) | (refine SL.val ?_ ?_ (Runs.len rfl sl113) ?_; rfl; rfl) | (refine SL.pass ?_ ?_ ?_; rfl; rfl))
      refine SL.nil ?_
      repeat (first | (refine WL.val ?_ ?_ (Runs.move rfl) ?_; rfl; rfl) | (refine WL.val ?_ ?_ (Runs.assign rfl) ?_; rfl; rfl) | (refine WL.val ?_ ?_ (Runs.extract rfl rfl) ?_; rfl; rfl) | (refine WL.val ?_ ?_ (Runs.nilCheck rfl) ?_; rfl; rfl) | (refine WL.val ?_ ?_ (Runs.pickT rfl rfl) ?_; rfl; rfl) | (refine WL.val ?_ ?_ (Runs.pickF rfl rfl) ?_; rfl; rfl) | (refine WL.val ?_ ?_ (Runs.len rfl sl22) ?_; rfl; rfl) | (refine WL.val ?_ ?_ (Runs.len rfl sl23) ?_; rfl; rfl) | (refine WL.val ?_ ?_ (Runs.len rfl sl27) ?_; rfl; rfl) | (refine WL.val ?_ ?_ (Runs.len rfl sl28) ?_; rfl; rfl) | (refine WL.val ?_ ?_ (Runs.len rfl sl39) ?_; rfl; rfl) | (refine WL.val ?_ ?_ (Runs.len rfl sl64) ?_; rfl; rfl) | (refine WL.val ?_ ?_ (Runs.len rfl sl68) ?_; rfl; rfl) | (refine WL.val ?_ ?_ (Runs.len rfl sl86) ?_; rfl; rfl) | (refine WL.val ?_ ?_ (Runs.len rfl sl113) ?_; rfl; rfl) | (refine WL.pass ?_ ?_ ?_; rfl; rfl))
      refine WL.nil ?_
      repeat (first | refine AtExit.thenRet ?_ | refine AtExit.thenExit ?_ | refine AtExit.blockRet ?_ | refine AtExit.blockEnd ?_ | refine AtExit.blockExit ?_ | (refine AtExit.blockPast ?_ ?_; rfl))
      refine AtExit.go ?_
      refine WC.seq (WC.region ?_)
      repeat (first | (refine WL.val ?_ ?_ (Runs.move rfl) ?_; rfl; rfl) | (refine WL.val ?_ ?_ (Runs.assign rfl) ?_; rfl; rfl) | (refine WL.val ?_ ?_ (Runs.extract rfl rfl) ?_; rfl; rfl) | (refine WL.val ?_ ?_ (Runs.nilCheck rfl) ?_; rfl; rfl) | (refine WL.val ?_ ?_ (Runs.pickT rfl rfl) ?_; rfl; rfl) | (refine WL.val ?_ ?_ (Runs.pickF rfl rfl) ?_; rfl; rfl) | (refine WL.val ?_ ?_ (Runs.len rfl sl22) ?_; rfl; rfl) | (refine WL.val ?_ ?_ (Runs.len rfl sl23) ?_; rfl; rfl) | (refine WL.val ?_ ?_ (Runs.len rfl sl27) ?_; rfl; rfl) | (refine WL.val ?_ ?_ (Runs.len rfl sl28) ?_; rfl; rfl) | (refine WL.val ?_ ?_ (Runs.len rfl sl39) ?_; rfl; rfl) | (refine WL.val ?_ ?_ (Runs.len rfl sl64) ?_; rfl; rfl) | (refine WL.val ?_ ?_ (Runs.len rfl sl68) ?_; rfl; rfl) | (refine WL.val ?_ ?_ (Runs.len rfl sl86) ?_; rfl; rfl) | (refine WL.val ?_ ?_ (Runs.len rfl sl113) ?_; rfl; rfl) | (refine WL.pass ?_ ?_ ?_; rfl; rfl))
      refine WL.nil ?_
      repeat (first | refine AtExit.thenRet ?_ | refine AtExit.thenExit ?_ | refine AtExit.blockRet ?_ | refine AtExit.blockEnd ?_ | refine AtExit.blockExit ?_ | (refine AtExit.blockPast ?_ ?_; rfl))
      refine AtExit.go ?_
      refine WC.condF rfl ?_
      refine WC.skip ?_
      repeat (first | refine AtExit.thenRet ?_ | refine AtExit.thenExit ?_ | refine AtExit.blockRet ?_ | refine AtExit.blockEnd ?_ | refine AtExit.blockExit ?_ | (refine AtExit.blockPast ?_ ?_; rfl))
      refine AtExit.go ?_
      refine WC.seq (WC.region ?_)
      repeat (first | (refine WL.val ?_ ?_ (Runs.move rfl) ?_; rfl; rfl) | (refine WL.val ?_ ?_ (Runs.assign rfl) ?_; rfl; rfl) | (refine WL.val ?_ ?_ (Runs.extract rfl rfl) ?_; rfl; rfl) | (refine WL.val ?_ ?_ (Runs.nilCheck rfl) ?_; rfl; rfl) | (refine WL.val ?_ ?_ (Runs.pickT rfl rfl) ?_; rfl; rfl) | (refine WL.val ?_ ?_ (Runs.pickF rfl rfl) ?_; rfl; rfl) | (refine WL.val ?_ ?_ (Runs.len rfl sl22) ?_; rfl; rfl) | (refine WL.val ?_ ?_ (Runs.len rfl sl23) ?_; rfl; rfl) | (refine WL.val ?_ ?_ (Runs.len rfl sl27) ?_; rfl; rfl) | (refine WL.val ?_ ?_ (Runs.len rfl sl28) ?_; rfl; rfl) | (refine WL.val ?_ ?_ (Runs.len rfl sl39) ?_; rfl; rfl) | (refine WL.val ?_ ?_ (Runs.len rfl sl64) ?_; rfl; rfl) | (refine WL.val ?_ ?_ (Runs.len rfl sl68) ?_; rfl; rfl) | (refine WL.val ?_ ?_ (Runs.len rfl sl86) ?_; rfl; rfl) | (refine WL.val ?_ ?_ (Runs.len rfl sl113) ?_; rfl; rfl) | (refine WL.pass ?_ ?_ ?_; rfl; rfl))
      by_cases hk1' : kd i % 3 = 1
      · refine WL.val rfl rfl (Runs.eql rfl rfl (r := true) (dtrue (by omega))) ?_
        refine WL.nil ?_
        repeat (first | refine AtExit.thenRet ?_ | refine AtExit.thenExit ?_ | refine AtExit.blockRet ?_ | refine AtExit.blockEnd ?_ | refine AtExit.blockExit ?_ | (refine AtExit.blockPast ?_ ?_; rfl))
        refine AtExit.go ?_
        refine WC.condT rfl ?_
        have hbd : Below w10.heap.size w10 w10.drew := below_drawn _ _ _
        have I11 := I10.below hbd
        have x11 : w10.drew.heap[bk]? = some (.cells (kc x).toArray 48 (0, 0)) := x10
        refine WC.still 5 mixed (by kernel_rfl) ?_
        generalize w10.drew = w11 at I11 x11 ⊢
        repeat (first | (refine SL.val ?_ ?_ (Runs.move rfl) ?_; rfl; rfl) | (refine SL.val ?_ ?_ (Runs.assign rfl) ?_; rfl; rfl) | (refine SL.val ?_ ?_ (Runs.extract rfl rfl) ?_; rfl; rfl) | (refine SL.val ?_ ?_ (Runs.nilCheck rfl) ?_; rfl; rfl) | (refine SL.val ?_ ?_ (Runs.pickT rfl rfl) ?_; rfl; rfl) | (refine SL.val ?_ ?_ (Runs.pickF rfl rfl) ?_; rfl; rfl) | (refine SL.val ?_ ?_ (Runs.len rfl sl22) ?_; rfl; rfl) | (refine SL.val ?_ ?_ (Runs.len rfl sl23) ?_; rfl; rfl) | (refine SL.val ?_ ?_ (Runs.len rfl sl27) ?_; rfl; rfl) | (refine SL.val ?_ ?_ (Runs.len rfl sl28) ?_; rfl; rfl) | (refine SL.val ?_ ?_ (Runs.len rfl sl39) ?_; rfl; rfl) | (refine SL.val ?_ ?_ (Runs.len rfl sl64) ?_; rfl; rfl) | (refine SL.val ?_ ?_ (Runs.len rfl sl68) ?_; rfl; rfl) | (refine SL.val ?_ ?_ (Runs.len rfl sl86) ?_; rfl; rfl) | (refine SL.val ?_ ?_ (Runs.len rfl sl113) ?_; rfl; rfl) | (refine SL.pass ?_ ?_ ?_; rfl; rfl))
        refine SL.val rfl rfl (Runs.fld rfl fl58_3) ?_
        refine SL.val rfl rfl (Runs.load rfl na56 (v := .map (some mb)) (by rw [cell_of I11.su.ue]; exact ue130 I11.su.sl)) ?_
        refine SL.val rfl rfl (Runs.loadAgg (cs := kc x) rfl na48 sz48 (fun j v hv => by rw [cell_of x11, Nat.zero_add]; exact (List.getElem?_toArray).trans hv)) ?_
        refine SL.nil ?_
        obtain ⟨w12, r12, m12, g12, z12⟩ := update_run x hx9 none w11 mb M I11.ok.K I11.su.map hlk
        refine WL.skip rfl (RunsS.update rfl rfl (t := none) rfl r12) ?_
        refine WL.nil ?_
        repeat (first | refine AtExit.thenRet ?_ | refine AtExit.thenExit ?_ | refine AtExit.blockRet ?_ | refine AtExit.blockEnd ?_ | refine AtExit.blockExit ?_ | (refine AtExit.blockPast ?_ ?_; rfl))
        refine AtExit.inv fun av hv => ⟨(inf, st, calls, v, ts, _, vr, vf, F), hv.sub (by repeat (first | exact Sub.nil _ | refine Sub.cons rfl ?_)), I11.dead hx9 hlk m12 g12 hBs.2.1⟩
      · refine WL.val rfl rfl (Runs.eql rfl rfl (r := false) (dfalse (by omega))) ?_
        refine WL.nil ?_
        repeat (first | refine AtExit.thenRet ?_ | refine AtExit.thenExit ?_ | refine AtExit.blockRet ?_ | refine AtExit.blockEnd ?_ | refine AtExit.blockExit ?_ | (refine AtExit.blockPast ?_ ?_; rfl))
        refine AtExit.go ?_
        refine WC.condF rfl ?_
        refine WC.seq (WC.region ?_)
        repeat (first | (refine WL.val ?_ ?_ (Runs.move rfl) ?_; rfl; rfl) | (refine WL.val ?_ ?_ (Runs.assign rfl) ?_; rfl; rfl) | (refine WL.val ?_ ?_ (Runs.extract rfl rfl) ?_; rfl; rfl) | (refine WL.val ?_ ?_ (Runs.nilCheck rfl) ?_; rfl; rfl) | (refine WL.val ?_ ?_ (Runs.pickT rfl rfl) ?_; rfl; rfl) | (refine WL.val ?_ ?_ (Runs.pickF rfl rfl) ?_; rfl; rfl) | (refine WL.val ?_ ?_ (Runs.len rfl sl22) ?_; rfl; rfl) | (refine WL.val ?_ ?_ (Runs.len rfl sl23) ?_; rfl; rfl) | (refine WL.val ?_ ?_ (Runs.len rfl sl27) ?_; rfl; rfl) | (refine WL.val ?_ ?_ (Runs.len rfl sl28) ?_; rfl; rfl) | (refine WL.val ?_ ?_ (Runs.len rfl sl39) ?_; rfl; rfl) | (refine WL.val ?_ ?_ (Runs.len rfl sl64) ?_; rfl; rfl) | (refine WL.val ?_ ?_ (Runs.len rfl sl68) ?_; rfl; rfl) | (refine WL.val ?_ ?_ (Runs.len rfl sl86) ?_; rfl; rfl) | (refine WL.val ?_ ?_ (Runs.len rfl sl113) ?_; rfl; rfl) | (refine WL.pass ?_ ?_ ?_; rfl; rfl))
        refine WL.val rfl rfl (Runs.loadAgg (cs := kc x) rfl na48 sz48 (fun j v hv => by rw [cell_of x10, Nat.zero_add]; exact (List.getElem?_toArray).trans hv)) ?_
        repeat (first | (refine WL.val ?_ ?_ (Runs.move rfl) ?_; rfl; rfl) | (refine WL.val ?_ ?_ (Runs.assign rfl) ?_; rfl; rfl) | (refine WL.val ?_ ?_ (Runs.extract rfl rfl) ?_; rfl; rfl) | (refine WL.val ?_ ?_ (Runs.nilCheck rfl) ?_; rfl; rfl) | (refine WL.val ?_ ?_ (Runs.pickT rfl rfl) ?_; rfl; rfl) | (refine WL.val ?_ ?_ (Runs.pickF rfl rfl) ?_; rfl; rfl) | (refine WL.val ?_ ?_ (Runs.len rfl sl22) ?_; rfl; rfl) | (refine WL.val ?_ ?_ (Runs.len rfl sl23) ?_; rfl; rfl) | (refine WL.val ?_ ?_ (Runs.len rfl sl27) ?_; rfl; rfl) | (refine WL.val ?_ ?_ (Runs.len rfl sl28) ?_; rfl; rfl) | (refine WL.val ?_ ?_ (Runs.len rfl sl39) ?_; rfl; rfl) | (refine WL.val ?_ ?_ (Runs.len rfl sl64) ?_; rfl; rfl) | (refine WL.val ?_ ?_ (Runs.len rfl sl68) ?_; rfl; rfl) | (refine WL.val ?_ ?_ (Runs.len rfl sl86) ?_; rfl; rfl) | (refine WL.val ?_ ?_ (Runs.len rfl sl113) ?_; rfl; rfl) | (refine WL.pass ?_ ?_ ?_; rfl; rfl))
        refine WL.call rfl rfl (RunsC.call rfl en8) (sbo_any I10.su I10.bel.size (by omega) d hd0 hd1 hT0 hT1 (by omega) x hx9 I10.ok.K hlk (by omega)) ?_
        rintro e w11 ⟨rfl, T, f, v11, ts11, hTl, hTu, s11, p11, g11, loc11⟩
        refine ⟨_, rfl, ?_⟩
        refine WL.nil ?_
        repeat (first | refine AtExit.thenRet ?_ | refine AtExit.thenExit ?_ | refine AtExit.blockRet ?_ | refine AtExit.blockEnd ?_ | refine AtExit.blockExit ?_ | (refine AtExit.blockPast ?_ ?_; rfl))
        refine AtExit.go ?_
        have x11 := I10.keep g11 x10 rfl
        obtain ⟨vr12, w12, r12, I12⟩ := I10.running ⟨hBs.1, hBs.2.1, hBs.2.2.1⟩ hd0 hd1 hTl hx9 hlk s11 p11 g11 loc11
        refine WC.seq (WC.region ?_)
        repeat (first | (refine WL.val ?_ ?_ (Runs.move rfl) ?_; rfl; rfl) | (refine WL.val ?_ ?_ (Runs.assign rfl) ?_; rfl; rfl) | (refine WL.val ?_ ?_ (Runs.extract rfl rfl) ?_; rfl; rfl) | (refine WL.val ?_ ?_ (Runs.nilCheck rfl) ?_; rfl; rfl) | (refine WL.val ?_ ?_ (Runs.pickT rfl rfl) ?_; rfl; rfl) | (refine WL.val ?_ ?_ (Runs.pickF rfl rfl) ?_; rfl; rfl) | (refine WL.val ?_ ?_ (Runs.len rfl sl22) ?_; rfl; rfl) | (refine WL.val ?_ ?_ (Runs.len rfl sl23) ?_; rfl; rfl) | (refine WL.val ?_ ?_ (Runs.len rfl sl27) ?_; rfl; rfl) | (refine WL.val ?_ ?_ (Runs.len rfl sl28) ?_; rfl; rfl) | (refine WL.val ?_ ?_ (Runs.len rfl sl39) ?_; rfl; rfl) | (refine WL.val ?_ ?_ (Runs.len rfl sl64) ?_; rfl; rfl) | (refine WL.val ?_ ?_ (Runs.len rfl sl68) ?_; rfl; rfl) | (refine WL.val ?_ ?_ (Runs.len rfl sl86) ?_; rfl; rfl) | (refine WL.val ?_ ?_ (Runs.len rfl sl113) ?_; rfl; rfl) | (refine WL.pass ?_ ?_ ?_; rfl; rfl))
        refine WL.val rfl rfl (Runs.loadAgg (cs := kc x) rfl na48 sz48 (fun j v hv => by rw [cell_of x11, Nat.zero_add]; exact (List.getElem?_toArray).trans hv)) ?_
        repeat (first | (refine WL.val ?_ ?_ (Runs.move rfl) ?_; rfl; rfl) | (refine WL.val ?_ ?_ (Runs.assign rfl) ?_; rfl; rfl) | (refine WL.val ?_ ?_ (Runs.extract rfl rfl) ?_; rfl; rfl) | (refine WL.val ?_ ?_ (Runs.nilCheck rfl) ?_; rfl; rfl) | (refine WL.val ?_ ?_ (Runs.pickT rfl rfl) ?_; rfl; rfl) | (refine WL.val ?_ ?_ (Runs.pickF rfl rfl) ?_; rfl; rfl) | (refine WL.val ?_ ?_ (Runs.len rfl sl22) ?_; rfl; rfl) | (refine WL.val ?_ ?_ (Runs.len rfl sl23) ?_; rfl; rfl) | (refine WL.val ?_ ?_ (Runs.len rfl sl27) ?_; rfl; rfl) | (refine WL.val ?_ ?_ (Runs.len rfl sl28) ?_; rfl; rfl) | (refine WL.val ?_ ?_ (Runs.len rfl sl39) ?_; rfl; rfl) | (refine WL.val ?_ ?_ (Runs.len rfl sl64) ?_; rfl; rfl) | (refine WL.val ?_ ?_ (Runs.len rfl sl68) ?_; rfl; rfl) | (refine WL.val ?_ ?_ (Runs.len rfl sl86) ?_; rfl; rfl) | (refine WL.val ?_ ?_ (Runs.len rfl sl113) ?_; rfl; rfl) | (refine WL.pass ?_ ?_ ?_; rfl; rfl))
        refine WL.val rfl rfl (Runs.build rfl (built61 x d st)) ?_
        refine WL.val rfl rfl (Runs.sliceK rfl Yba.underlying39 in61 (by omega) (by omega) (by kernel_rfl)) ?_
        refine WL.val rfl rfl (Runs.append rfl r12) ?_
        repeat (first | (refine WL.val ?_ ?_ (Runs.move rfl) ?_; rfl; rfl) | (refine WL.val ?_ ?_ (Runs.assign rfl) ?_; rfl; rfl) | (refine WL.val ?_ ?_ (Runs.extract rfl rfl) ?_; rfl; rfl) | (refine WL.val ?_ ?_ (Runs.nilCheck rfl) ?_; rfl; rfl) | (refine WL.val ?_ ?_ (Runs.pickT rfl rfl) ?_; rfl; rfl) | (refine WL.val ?_ ?_ (Runs.pickF rfl rfl) ?_; rfl; rfl) | (refine WL.val ?_ ?_ (Runs.len rfl sl22) ?_; rfl; rfl) | (refine WL.val ?_ ?_ (Runs.len rfl sl23) ?_; rfl; rfl) | (refine WL.val ?_ ?_ (Runs.len rfl sl27) ?_; rfl; rfl) | (refine WL.val ?_ ?_ (Runs.len rfl sl28) ?_; rfl; rfl) | (refine WL.val ?_ ?_ (Runs.len rfl sl39) ?_; rfl; rfl) | (refine WL.val ?_ ?_ (Runs.len rfl sl64) ?_; rfl; rfl) | (refine WL.val ?_ ?_ (Runs.len rfl sl68) ?_; rfl; rfl) | (refine WL.val ?_ ?_ (Runs.len rfl sl86) ?_; rfl; rfl) | (refine WL.val ?_ ?_ (Runs.len rfl sl113) ?_; rfl; rfl) | (refine WL.pass ?_ ?_ ?_; rfl; rfl))
        refine WL.nil ?_
        repeat (first | refine AtExit.thenRet ?_ | refine AtExit.thenExit ?_ | refine AtExit.blockRet ?_ | refine AtExit.blockEnd ?_ | refine AtExit.blockExit ?_ | (refine AtExit.blockPast ?_ ?_; rfl))
        refine AtExit.go ?_
        refine WC.region ?_
        repeat (first | (refine WL.val ?_ ?_ (Runs.move rfl) ?_; rfl; rfl) | (refine WL.val ?_ ?_ (Runs.assign rfl) ?_; rfl; rfl) | (refine WL.val ?_ ?_ (Runs.extract rfl rfl) ?_; rfl; rfl) | (refine WL.val ?_ ?_ (Runs.nilCheck rfl) ?_; rfl; rfl) | (refine WL.val ?_ ?_ (Runs.pickT rfl rfl) ?_; rfl; rfl) | (refine WL.val ?_ ?_ (Runs.pickF rfl rfl) ?_; rfl; rfl) | (refine WL.val ?_ ?_ (Runs.len rfl sl22) ?_; rfl; rfl) | (refine WL.val ?_ ?_ (Runs.len rfl sl23) ?_; rfl; rfl) | (refine WL.val ?_ ?_ (Runs.len rfl sl27) ?_; rfl; rfl) | (refine WL.val ?_ ?_ (Runs.len rfl sl28) ?_; rfl; rfl) | (refine WL.val ?_ ?_ (Runs.len rfl sl39) ?_; rfl; rfl) | (refine WL.val ?_ ?_ (Runs.len rfl sl64) ?_; rfl; rfl) | (refine WL.val ?_ ?_ (Runs.len rfl sl68) ?_; rfl; rfl) | (refine WL.val ?_ ?_ (Runs.len rfl sl86) ?_; rfl; rfl) | (refine WL.val ?_ ?_ (Runs.len rfl sl113) ?_; rfl; rfl) | (refine WL.pass ?_ ?_ ?_; rfl; rfl))
        refine WL.val rfl rfl (Runs.add rfl rfl (r := ((st + 1 : Nat) : Int)) (wI (by omega) (by omega) (by omega))) ?_
        repeat (first | (refine WL.val ?_ ?_ (Runs.move rfl) ?_; rfl; rfl) | (refine WL.val ?_ ?_ (Runs.assign rfl) ?_; rfl; rfl) | (refine WL.val ?_ ?_ (Runs.extract rfl rfl) ?_; rfl; rfl) | (refine WL.val ?_ ?_ (Runs.nilCheck rfl) ?_; rfl; rfl) | (refine WL.val ?_ ?_ (Runs.pickT rfl rfl) ?_; rfl; rfl) | (refine WL.val ?_ ?_ (Runs.pickF rfl rfl) ?_; rfl; rfl) | (refine WL.val ?_ ?_ (Runs.len rfl sl22) ?_; rfl; rfl) | (refine WL.val ?_ ?_ (Runs.len rfl sl23) ?_; rfl; rfl) | (refine WL.val ?_ ?_ (Runs.len rfl sl27) ?_; rfl; rfl) | (refine WL.val ?_ ?_ (Runs.len rfl sl28) ?_; rfl; rfl) | (refine WL.val ?_ ?_ (Runs.len rfl sl39) ?_; rfl; rfl) | (refine WL.val ?_ ?_ (Runs.len rfl sl64) ?_; rfl; rfl) | (refine WL.val ?_ ?_ (Runs.len rfl sl68) ?_; rfl; rfl) | (refine WL.val ?_ ?_ (Runs.len rfl sl86) ?_; rfl; rfl) | (refine WL.val ?_ ?_ (Runs.len rfl sl113) ?_; rfl; rfl) | (refine WL.pass ?_ ?_ ?_; rfl; rfl))
        refine WL.nil ?_
        repeat (first | refine AtExit.thenRet ?_ | refine AtExit.thenExit ?_ | refine AtExit.blockRet ?_ | refine AtExit.blockEnd ?_ | refine AtExit.blockExit ?_ | (refine AtExit.blockPast ?_ ?_; rfl))
        refine AtExit.inv fun av hv => ⟨(_, st + 1, calls + 1, v11, ts11, _, vr12, vf, F), hv.sub (by repeat (first | exact Sub.nil _ | refine Sub.cons rfl ?_)), I12⟩
  rintro ⟨inf, st, calls, v, ts, M, vr, vf, F⟩ w6 I6
  -- the sessions
  refine WC.cut (α := List Value) (fun _ => [(7, .int .i64 now), (8, pv C), (9, pv cnt), (11, pv U), (14, vr), (15, vf)]) (fun S w' => OI C U mb cnt bT bD now w m inf st S calls v ts M vr vf F w') ?_ ?_
  · refine WC.seq (WC.region ?_)
    repeat (first | (refine WL.val ?_ ?_ (Runs.move rfl) ?_; rfl; rfl) | (refine WL.val ?_ ?_ (Runs.assign rfl) ?_; rfl; rfl) | (refine WL.val ?_ ?_ (Runs.extract rfl rfl) ?_; rfl; rfl) | (refine WL.val ?_ ?_ (Runs.nilCheck rfl) ?_; rfl; rfl) | (refine WL.val ?_ ?_ (Runs.pickT rfl rfl) ?_; rfl; rfl) | (refine WL.val ?_ ?_ (Runs.pickF rfl rfl) ?_; rfl; rfl) | (refine WL.val ?_ ?_ (Runs.len rfl sl22) ?_; rfl; rfl) | (refine WL.val ?_ ?_ (Runs.len rfl sl23) ?_; rfl; rfl) | (refine WL.val ?_ ?_ (Runs.len rfl sl27) ?_; rfl; rfl) | (refine WL.val ?_ ?_ (Runs.len rfl sl28) ?_; rfl; rfl) | (refine WL.val ?_ ?_ (Runs.len rfl sl39) ?_; rfl; rfl) | (refine WL.val ?_ ?_ (Runs.len rfl sl64) ?_; rfl; rfl) | (refine WL.val ?_ ?_ (Runs.len rfl sl68) ?_; rfl; rfl) | (refine WL.val ?_ ?_ (Runs.len rfl sl86) ?_; rfl; rfl) | (refine WL.val ?_ ?_ (Runs.len rfl sl113) ?_; rfl; rfl) | (refine WL.pass ?_ ?_ ?_; rfl; rfl))
    refine WL.nil ?_
    repeat (first | refine AtExit.thenRet ?_ | refine AtExit.thenExit ?_ | refine AtExit.blockRet ?_ | refine AtExit.blockEnd ?_ | refine AtExit.blockExit ?_ | (refine AtExit.blockPast ?_ ?_; rfl))
    refine AtExit.go ?_
    refine WC.block ?_
    refine WC.loop (α := Nat × List Value) (fun | (i, _) => [(2, .slice A' m' Ca'), (7, .int .i64 now), (8, pv C), (9, pv cnt), (11, pv U), (14, vr), (15, vf), (24, .int .i64 (i : Int))])
      (fun | (_, S) => fun w' => OI C U mb cnt bT bD now w m inf st S calls v ts M vr vf F w') (fun | (i, _) => m' - i) (0, S0) (by repeat (first | exact Sub.nil _ | refine Sub.cons rfl ?_)) I6 ?_
    clear I6
    rintro ⟨i, S⟩ w7 I7
    refine WC.seq ?_
    refine WC.seq (WC.region ?_)
    repeat (first | (refine WL.val ?_ ?_ (Runs.move rfl) ?_; rfl; rfl) | (refine WL.val ?_ ?_ (Runs.assign rfl) ?_; rfl; rfl) | (refine WL.val ?_ ?_ (Runs.extract rfl rfl) ?_; rfl; rfl) | (refine WL.val ?_ ?_ (Runs.nilCheck rfl) ?_; rfl; rfl) | (refine WL.val ?_ ?_ (Runs.pickT rfl rfl) ?_; rfl; rfl) | (refine WL.val ?_ ?_ (Runs.pickF rfl rfl) ?_; rfl; rfl) | (refine WL.val ?_ ?_ (Runs.len rfl sl22) ?_; rfl; rfl) | (refine WL.val ?_ ?_ (Runs.len rfl sl23) ?_; rfl; rfl) | (refine WL.val ?_ ?_ (Runs.len rfl sl27) ?_; rfl; rfl) | (refine WL.val ?_ ?_ (Runs.len rfl sl28) ?_; rfl; rfl) | (refine WL.val ?_ ?_ (Runs.len rfl sl39) ?_; rfl; rfl) | (refine WL.val ?_ ?_ (Runs.len rfl sl64) ?_; rfl; rfl) | (refine WL.val ?_ ?_ (Runs.len rfl sl68) ?_; rfl; rfl) | (refine WL.val ?_ ?_ (Runs.len rfl sl86) ?_; rfl; rfl) | (refine WL.val ?_ ?_ (Runs.len rfl sl113) ?_; rfl; rfl) | (refine WL.pass ?_ ?_ ?_; rfl; rfl))
    by_cases hi : i < m'
    case neg =>
      refine WL.val rfl rfl (Runs.lss rfl rfl (decge hi)) ?_
      repeat (first | (refine WL.val ?_ ?_ (Runs.move rfl) ?_; rfl; rfl) | (refine WL.val ?_ ?_ (Runs.assign rfl) ?_; rfl; rfl) | (refine WL.val ?_ ?_ (Runs.extract rfl rfl) ?_; rfl; rfl) | (refine WL.val ?_ ?_ (Runs.nilCheck rfl) ?_; rfl; rfl) | (refine WL.val ?_ ?_ (Runs.pickT rfl rfl) ?_; rfl; rfl) | (refine WL.val ?_ ?_ (Runs.pickF rfl rfl) ?_; rfl; rfl) | (refine WL.val ?_ ?_ (Runs.len rfl sl22) ?_; rfl; rfl) | (refine WL.val ?_ ?_ (Runs.len rfl sl23) ?_; rfl; rfl) | (refine WL.val ?_ ?_ (Runs.len rfl sl27) ?_; rfl; rfl) | (refine WL.val ?_ ?_ (Runs.len rfl sl28) ?_; rfl; rfl) | (refine WL.val ?_ ?_ (Runs.len rfl sl39) ?_; rfl; rfl) | (refine WL.val ?_ ?_ (Runs.len rfl sl64) ?_; rfl; rfl) | (refine WL.val ?_ ?_ (Runs.len rfl sl68) ?_; rfl; rfl) | (refine WL.val ?_ ?_ (Runs.len rfl sl86) ?_; rfl; rfl) | (refine WL.val ?_ ?_ (Runs.len rfl sl113) ?_; rfl; rfl) | (refine WL.pass ?_ ?_ ?_; rfl; rfl))
      refine WL.nil ?_
      repeat (first | refine AtExit.thenRet ?_ | refine AtExit.thenExit ?_ | refine AtExit.blockRet ?_ | refine AtExit.blockEnd ?_ | refine AtExit.blockExit ?_ | (refine AtExit.blockPast ?_ ?_; rfl))
      refine AtExit.go ?_
      refine WC.condF rfl ?_
      refine WC.exit ?_
      repeat (first | refine AtExit.thenRet ?_ | refine AtExit.thenExit ?_ | refine AtExit.blockRet ?_ | refine AtExit.blockEnd ?_ | refine AtExit.blockExit ?_ | (refine AtExit.blockPast ?_ ?_; rfl))
      refine AtExit.inv fun av hv => ⟨S, hv.sub (by repeat (first | exact Sub.nil _ | refine Sub.cons rfl ?_)), I7⟩
    refine WL.val rfl rfl (Runs.lss rfl rfl (declt hi)) ?_
    repeat (first | (refine WL.val ?_ ?_ (Runs.move rfl) ?_; rfl; rfl) | (refine WL.val ?_ ?_ (Runs.assign rfl) ?_; rfl; rfl) | (refine WL.val ?_ ?_ (Runs.extract rfl rfl) ?_; rfl; rfl) | (refine WL.val ?_ ?_ (Runs.nilCheck rfl) ?_; rfl; rfl) | (refine WL.val ?_ ?_ (Runs.pickT rfl rfl) ?_; rfl; rfl) | (refine WL.val ?_ ?_ (Runs.pickF rfl rfl) ?_; rfl; rfl) | (refine WL.val ?_ ?_ (Runs.len rfl sl22) ?_; rfl; rfl) | (refine WL.val ?_ ?_ (Runs.len rfl sl23) ?_; rfl; rfl) | (refine WL.val ?_ ?_ (Runs.len rfl sl27) ?_; rfl; rfl) | (refine WL.val ?_ ?_ (Runs.len rfl sl28) ?_; rfl; rfl) | (refine WL.val ?_ ?_ (Runs.len rfl sl39) ?_; rfl; rfl) | (refine WL.val ?_ ?_ (Runs.len rfl sl64) ?_; rfl; rfl) | (refine WL.val ?_ ?_ (Runs.len rfl sl68) ?_; rfl; rfl) | (refine WL.val ?_ ?_ (Runs.len rfl sl86) ?_; rfl; rfl) | (refine WL.val ?_ ?_ (Runs.len rfl sl113) ?_; rfl; rfl) | (refine WL.pass ?_ ?_ ?_; rfl; rfl))
    by_cases hi16 : i < 16
    case neg =>
      refine WL.val rfl rfl (Runs.lss rfl rfl (r := false) (dfalse (by omega))) ?_
      repeat (first | (refine WL.val ?_ ?_ (Runs.move rfl) ?_; rfl; rfl) | (refine WL.val ?_ ?_ (Runs.assign rfl) ?_; rfl; rfl) | (refine WL.val ?_ ?_ (Runs.extract rfl rfl) ?_; rfl; rfl) | (refine WL.val ?_ ?_ (Runs.nilCheck rfl) ?_; rfl; rfl) | (refine WL.val ?_ ?_ (Runs.pickT rfl rfl) ?_; rfl; rfl) | (refine WL.val ?_ ?_ (Runs.pickF rfl rfl) ?_; rfl; rfl) | (refine WL.val ?_ ?_ (Runs.len rfl sl22) ?_; rfl; rfl) | (refine WL.val ?_ ?_ (Runs.len rfl sl23) ?_; rfl; rfl) | (refine WL.val ?_ ?_ (Runs.len rfl sl27) ?_; rfl; rfl) | (refine WL.val ?_ ?_ (Runs.len rfl sl28) ?_; rfl; rfl) | (refine WL.val ?_ ?_ (Runs.len rfl sl39) ?_; rfl; rfl) | (refine WL.val ?_ ?_ (Runs.len rfl sl64) ?_; rfl; rfl) | (refine WL.val ?_ ?_ (Runs.len rfl sl68) ?_; rfl; rfl) | (refine WL.val ?_ ?_ (Runs.len rfl sl86) ?_; rfl; rfl) | (refine WL.val ?_ ?_ (Runs.len rfl sl113) ?_; rfl; rfl) | (refine WL.pass ?_ ?_ ?_; rfl; rfl))
      refine WL.nil ?_
      repeat (first | refine AtExit.thenRet ?_ | refine AtExit.thenExit ?_ | refine AtExit.blockRet ?_ | refine AtExit.blockEnd ?_ | refine AtExit.blockExit ?_ | (refine AtExit.blockPast ?_ ?_; rfl))
      refine AtExit.go ?_
      refine WC.condF rfl ?_
      refine WC.exit ?_
      repeat (first | refine AtExit.thenRet ?_ | refine AtExit.thenExit ?_ | refine AtExit.blockRet ?_ | refine AtExit.blockEnd ?_ | refine AtExit.blockExit ?_ | (refine AtExit.blockPast ?_ ?_; rfl))
      refine AtExit.inv fun av hv => ⟨S, hv.sub (by repeat (first | exact Sub.nil _ | refine Sub.cons rfl ?_)), I7⟩
    refine WL.val rfl rfl (Runs.lss rfl rfl (r := true) (dtrue (by omega))) ?_
    repeat (first | (refine WL.val ?_ ?_ (Runs.move rfl) ?_; rfl; rfl) | (refine WL.val ?_ ?_ (Runs.assign rfl) ?_; rfl; rfl) | (refine WL.val ?_ ?_ (Runs.extract rfl rfl) ?_; rfl; rfl) | (refine WL.val ?_ ?_ (Runs.nilCheck rfl) ?_; rfl; rfl) | (refine WL.val ?_ ?_ (Runs.pickT rfl rfl) ?_; rfl; rfl) | (refine WL.val ?_ ?_ (Runs.pickF rfl rfl) ?_; rfl; rfl) | (refine WL.val ?_ ?_ (Runs.len rfl sl22) ?_; rfl; rfl) | (refine WL.val ?_ ?_ (Runs.len rfl sl23) ?_; rfl; rfl) | (refine WL.val ?_ ?_ (Runs.len rfl sl27) ?_; rfl; rfl) | (refine WL.val ?_ ?_ (Runs.len rfl sl28) ?_; rfl; rfl) | (refine WL.val ?_ ?_ (Runs.len rfl sl39) ?_; rfl; rfl) | (refine WL.val ?_ ?_ (Runs.len rfl sl64) ?_; rfl; rfl) | (refine WL.val ?_ ?_ (Runs.len rfl sl68) ?_; rfl; rfl) | (refine WL.val ?_ ?_ (Runs.len rfl sl86) ?_; rfl; rfl) | (refine WL.val ?_ ?_ (Runs.len rfl sl113) ?_; rfl; rfl) | (refine WL.pass ?_ ?_ ?_; rfl; rfl))
    refine WL.nil ?_
    repeat (first | refine AtExit.thenRet ?_ | refine AtExit.thenExit ?_ | refine AtExit.blockRet ?_ | refine AtExit.blockEnd ?_ | refine AtExit.blockExit ?_ | (refine AtExit.blockPast ?_ ?_; rfl))
    refine AtExit.go ?_
    refine WC.condT rfl ?_
    refine WC.skip ?_
    repeat (first | refine AtExit.thenRet ?_ | refine AtExit.thenExit ?_ | refine AtExit.blockRet ?_ | refine AtExit.blockEnd ?_ | refine AtExit.blockExit ?_ | (refine AtExit.blockPast ?_ ?_; rfl))
    refine AtExit.go ?_
    have hbd : Below w7.heap.size w7 w7.drew := below_drawn _ _ _
    have I8 := I7.below hbd
    obtain ⟨ab, ao, hAe, habB, a0, a1, a2⟩ := hA'.below I8.bel i hi
    refine WC.seq (WC.block ?_)
    refine WC.still 22 mixed (by kernel_rfl) ?_
    generalize w7.drew = w8 at I8 a0 a1 a2 ⊢
    clear I7 hbd
    repeat (first | (refine SL.val ?_ ?_ (Runs.move rfl) ?_; rfl; rfl) | (refine SL.val ?_ ?_ (Runs.assign rfl) ?_; rfl; rfl) | (refine SL.val ?_ ?_ (Runs.extract rfl rfl) ?_; rfl; rfl) | (refine SL.val ?_ ?_ (Runs.nilCheck rfl) ?_; rfl; rfl) | (refine SL.val ?_ ?_ (Runs.pickT rfl rfl) ?_; rfl; rfl) | (refine SL.val ?_ ?_ (Runs.pickF rfl rfl) ?_; rfl; rfl) | (refine SL.val ?_ ?_ (Runs.len rfl sl22) ?_; rfl; rfl) | (refine SL.val ?_ ?_ (Runs.len rfl sl23) ?_; rfl; rfl) | (refine SL.val ?_ ?_ (Runs.len rfl sl27) ?_; rfl; rfl) | (refine SL.val ?_ ?_ (Runs.len rfl sl28) ?_; rfl; rfl) | (refine SL.val ?_ ?_ (Runs.len rfl sl39) ?_; rfl; rfl) | (refine SL.val ?_ ?_ (Runs.len rfl sl64) ?_; rfl; rfl) | (refine SL.val ?_ ?_ (Runs.len rfl sl68) ?_; rfl; rfl) | (refine SL.val ?_ ?_ (Runs.len rfl sl86) ?_; rfl; rfl) | (refine SL.val ?_ ?_ (Runs.len rfl sl113) ?_; rfl; rfl) | (refine SL.pass ?_ ?_ ?_; rfl; rfl))
    refine SL.val rfl rfl (Runs.idxK hAe rfl rfl Yba.underlying23 sz63 rfl hi) ?_
    refine SL.val rfl rfl (Runs.fld rfl fl63_0) ?_
    refine SL.val rfl rfl (Runs.load rfl na5 a0) ?_
    repeat (first | (refine SL.val ?_ ?_ (Runs.move rfl) ?_; rfl; rfl) | (refine SL.val ?_ ?_ (Runs.assign rfl) ?_; rfl; rfl) | (refine SL.val ?_ ?_ (Runs.extract rfl rfl) ?_; rfl; rfl) | (refine SL.val ?_ ?_ (Runs.nilCheck rfl) ?_; rfl; rfl) | (refine SL.val ?_ ?_ (Runs.pickT rfl rfl) ?_; rfl; rfl) | (refine SL.val ?_ ?_ (Runs.pickF rfl rfl) ?_; rfl; rfl) | (refine SL.val ?_ ?_ (Runs.len rfl sl22) ?_; rfl; rfl) | (refine SL.val ?_ ?_ (Runs.len rfl sl23) ?_; rfl; rfl) | (refine SL.val ?_ ?_ (Runs.len rfl sl27) ?_; rfl; rfl) | (refine SL.val ?_ ?_ (Runs.len rfl sl28) ?_; rfl; rfl) | (refine SL.val ?_ ?_ (Runs.len rfl sl39) ?_; rfl; rfl) | (refine SL.val ?_ ?_ (Runs.len rfl sl64) ?_; rfl; rfl) | (refine SL.val ?_ ?_ (Runs.len rfl sl68) ?_; rfl; rfl) | (refine SL.val ?_ ?_ (Runs.len rfl sl86) ?_; rfl; rfl) | (refine SL.val ?_ ?_ (Runs.len rfl sl113) ?_; rfl; rfl) | (refine SL.pass ?_ ?_ ?_; rfl; rfl))
    refine SL.val rfl rfl (Runs.idxK hAe rfl rfl Yba.underlying23 sz63 rfl hi) ?_
    refine SL.val rfl rfl (Runs.fld rfl fl63_1) ?_
    refine SL.val rfl rfl (Runs.load rfl na5 a1) ?_
    repeat (first | (refine SL.val ?_ ?_ (Runs.move rfl) ?_; rfl; rfl) | (refine SL.val ?_ ?_ (Runs.assign rfl) ?_; rfl; rfl) | (refine SL.val ?_ ?_ (Runs.extract rfl rfl) ?_; rfl; rfl) | (refine SL.val ?_ ?_ (Runs.nilCheck rfl) ?_; rfl; rfl) | (refine SL.val ?_ ?_ (Runs.pickT rfl rfl) ?_; rfl; rfl) | (refine SL.val ?_ ?_ (Runs.pickF rfl rfl) ?_; rfl; rfl) | (refine SL.val ?_ ?_ (Runs.len rfl sl22) ?_; rfl; rfl) | (refine SL.val ?_ ?_ (Runs.len rfl sl23) ?_; rfl; rfl) | (refine SL.val ?_ ?_ (Runs.len rfl sl27) ?_; rfl; rfl) | (refine SL.val ?_ ?_ (Runs.len rfl sl28) ?_; rfl; rfl) | (refine SL.val ?_ ?_ (Runs.len rfl sl39) ?_; rfl; rfl) | (refine SL.val ?_ ?_ (Runs.len rfl sl64) ?_; rfl; rfl) | (refine SL.val ?_ ?_ (Runs.len rfl sl68) ?_; rfl; rfl) | (refine SL.val ?_ ?_ (Runs.len rfl sl86) ?_; rfl; rfl) | (refine SL.val ?_ ?_ (Runs.len rfl sl113) ?_; rfl; rfl) | (refine SL.pass ?_ ?_ ?_; rfl; rfl))
    refine SL.val rfl rfl (Runs.idxK hAe rfl rfl Yba.underlying23 sz63 rfl hi) ?_
    refine SL.val rfl rfl (Runs.fld rfl fl63_2) ?_
    refine SL.val rfl rfl (Runs.load rfl na9 a2) ?_
    refine SL.val rfl rfl (Runs.build rfl (built52 (sd i))) ?_
    refine SL.val rfl rfl (Runs.build rfl (built54 (sa i) (sp i) (sd i))) ?_
    repeat (first | (refine SL.val ?_ ?_ (Runs.move rfl) ?_; rfl; rfl) | (refine SL.val ?_ ?_ (Runs.assign rfl) ?_; rfl; rfl) | (refine SL.val ?_ ?_ (Runs.extract rfl rfl) ?_; rfl; rfl) | (refine SL.val ?_ ?_ (Runs.nilCheck rfl) ?_; rfl; rfl) | (refine SL.val ?_ ?_ (Runs.pickT rfl rfl) ?_; rfl; rfl) | (refine SL.val ?_ ?_ (Runs.pickF rfl rfl) ?_; rfl; rfl) | (refine SL.val ?_ ?_ (Runs.len rfl sl22) ?_; rfl; rfl) | (refine SL.val ?_ ?_ (Runs.len rfl sl23) ?_; rfl; rfl) | (refine SL.val ?_ ?_ (Runs.len rfl sl27) ?_; rfl; rfl) | (refine SL.val ?_ ?_ (Runs.len rfl sl28) ?_; rfl; rfl) | (refine SL.val ?_ ?_ (Runs.len rfl sl39) ?_; rfl; rfl) | (refine SL.val ?_ ?_ (Runs.len rfl sl64) ?_; rfl; rfl) | (refine SL.val ?_ ?_ (Runs.len rfl sl68) ?_; rfl; rfl) | (refine SL.val ?_ ?_ (Runs.len rfl sl86) ?_; rfl; rfl) | (refine SL.val ?_ ?_ (Runs.len rfl sl113) ?_; rfl; rfl) | (refine SL.pass ?_ ?_ ?_; rfl; rfl))
    refine SL.val rfl rfl (Runs.fld rfl fl58_2) ?_
    refine SL.val rfl rfl (Runs.idxArr rfl rfl und55 sz54 rfl hi16) ?_
    refine SL.nil ?_
    have hth : w8.there U (0 + 2 + i * 8) 8 := by
      have := ue_there I8.su.ue (i := i * 8) (k := 8) (by rw [I8.su.sl]; omega)
      rw [show 0 + 2 + i * 8 = 2 + i * 8 from by omega]; exact this
    refine WL.skip rfl (RunsS.storeMid rfl rfl (sesC_one (sa i) (sp i) (sd i)) sz54 hth) ?_
    refine WL.nil ?_
    repeat (first | refine AtExit.thenRet ?_ | refine AtExit.thenExit ?_ | refine AtExit.blockRet ?_ | refine AtExit.blockEnd ?_ | refine AtExit.blockExit ?_ | (refine AtExit.blockPast ?_ ?_; rfl))
    refine AtExit.go ?_
    have hsl : (sesC (sa i) (sp i) (sd i)).length = 8 := rfl
    have u9 := ue_put I8.su.ue (i := i * 8) (sesC (sa i) (sp i) (sd i)) (by rw [I8.su.sl, hsl]; omega)
    have g9 : Chg w8 (w8.setCells U (0 + 2 + i * 8) (sesC (sa i) (sp i) (sd i)).toArray.toList) (fun k => k = U) := chg_setCells (m := fun k => k = U) U rfl _ _ _
    rw [show 2 + i * 8 = 0 + 2 + i * 8 from by omega] at u9
    change (w8.setCells U (0 + 2 + i * 8) (sesC (sa i) (sp i) (sd i)).toArray.toList).heap[U]? = _ at u9
    have I9 := I8.sess u9 (by rw [List.length_append, List.length_append, List.length_take, List.length_drop, I8.su.sl, hsl]; omega) g9 hBs.2.2.2
    generalize w8.setCells U (0 + 2 + i * 8) (sesC (sa i) (sp i) (sd i)).toArray.toList = w9 at I9 ⊢
    refine WC.region ?_
    repeat (first | (refine WL.val ?_ ?_ (Runs.move rfl) ?_; rfl; rfl) | (refine WL.val ?_ ?_ (Runs.assign rfl) ?_; rfl; rfl) | (refine WL.val ?_ ?_ (Runs.extract rfl rfl) ?_; rfl; rfl) | (refine WL.val ?_ ?_ (Runs.nilCheck rfl) ?_; rfl; rfl) | (refine WL.val ?_ ?_ (Runs.pickT rfl rfl) ?_; rfl; rfl) | (refine WL.val ?_ ?_ (Runs.pickF rfl rfl) ?_; rfl; rfl) | (refine WL.val ?_ ?_ (Runs.len rfl sl22) ?_; rfl; rfl) | (refine WL.val ?_ ?_ (Runs.len rfl sl23) ?_; rfl; rfl) | (refine WL.val ?_ ?_ (Runs.len rfl sl27) ?_; rfl; rfl) | (refine WL.val ?_ ?_ (Runs.len rfl sl28) ?_; rfl; rfl) | (refine WL.val ?_ ?_ (Runs.len rfl sl39) ?_; rfl; rfl) | (refine WL.val ?_ ?_ (Runs.len rfl sl64) ?_; rfl; rfl) | (refine WL.val ?_ ?_ (Runs.len rfl sl68) ?_; rfl; rfl) | (refine WL.val ?_ ?_ (Runs.len rfl sl86) ?_; rfl; rfl) | (refine WL.val ?_ ?_ (Runs.len rfl sl113) ?_; rfl; rfl) | (refine WL.pass ?_ ?_ ?_; rfl; rfl))
    refine WL.val rfl rfl (Runs.add rfl rfl (r := ((i + 1 : Nat) : Int)) (wI (by omega) (by omega) (by omega))) ?_
    repeat (first | (refine WL.val ?_ ?_ (Runs.move rfl) ?_; rfl; rfl) | (refine WL.val ?_ ?_ (Runs.assign rfl) ?_; rfl; rfl) | (refine WL.val ?_ ?_ (Runs.extract rfl rfl) ?_; rfl; rfl) | (refine WL.val ?_ ?_ (Runs.nilCheck rfl) ?_; rfl; rfl) | (refine WL.val ?_ ?_ (Runs.pickT rfl rfl) ?_; rfl; rfl) | (refine WL.val ?_ ?_ (Runs.pickF rfl rfl) ?_; rfl; rfl) | (refine WL.val ?_ ?_ (Runs.len rfl sl22) ?_; rfl; rfl) | (refine WL.val ?_ ?_ (Runs.len rfl sl23) ?_; rfl; rfl) | (refine WL.val ?_ ?_ (Runs.len rfl sl27) ?_; rfl; rfl) | (refine WL.val ?_ ?_ (Runs.len rfl sl28) ?_; rfl; rfl) | (refine WL.val ?_ ?_ (Runs.len rfl sl39) ?_; rfl; rfl) | (refine WL.val ?_ ?_ (Runs.len rfl sl64) ?_; rfl; rfl) | (refine WL.val ?_ ?_ (Runs.len rfl sl68) ?_; rfl; rfl) | (refine WL.val ?_ ?_ (Runs.len rfl sl86) ?_; rfl; rfl) | (refine WL.val ?_ ?_ (Runs.len rfl sl113) ?_; rfl; rfl) | (refine WL.pass ?_ ?_ ?_; rfl; rfl))
    refine WL.nil ?_
    repeat (first | refine AtExit.thenRet ?_ | refine AtExit.thenExit ?_ | refine AtExit.blockRet ?_ | refine AtExit.blockEnd ?_ | refine AtExit.blockExit ?_ | (refine AtExit.blockPast ?_ ?_; rfl))
    refine AtExit.inv fun av hv => ⟨(i + 1, _), hv.sub (by repeat (first | exact Sub.nil _ | refine Sub.cons rfl ?_)), I9, by show m' - (i + 1) < m' - i; omega⟩
  clear I6
  rintro S w7 I7
  have hst : st ≤ m := I7.bd.1
  have hcl : calls ≤ m := I7.bd.2
  refine WC.seq (WC.region ?_)
  refine WL.val rfl rfl (Runs.load rfl na3 (v := .int .i64 (calls : Int)) (by rw [cell_of I7.su.cn]; rfl)) ?_
  repeat (first | (refine WL.val ?_ ?_ (Runs.move rfl) ?_; rfl; rfl) | (refine WL.val ?_ ?_ (Runs.assign rfl) ?_; rfl; rfl) | (refine WL.val ?_ ?_ (Runs.extract rfl rfl) ?_; rfl; rfl) | (refine WL.val ?_ ?_ (Runs.nilCheck rfl) ?_; rfl; rfl) | (refine WL.val ?_ ?_ (Runs.pickT rfl rfl) ?_; rfl; rfl) | (refine WL.val ?_ ?_ (Runs.pickF rfl rfl) ?_; rfl; rfl) | (refine WL.val ?_ ?_ (Runs.len rfl sl22) ?_; rfl; rfl) | (refine WL.val ?_ ?_ (Runs.len rfl sl23) ?_; rfl; rfl) | (refine WL.val ?_ ?_ (Runs.len rfl sl27) ?_; rfl; rfl) | (refine WL.val ?_ ?_ (Runs.len rfl sl28) ?_; rfl; rfl) | (refine WL.val ?_ ?_ (Runs.len rfl sl39) ?_; rfl; rfl) | (refine WL.val ?_ ?_ (Runs.len rfl sl64) ?_; rfl; rfl) | (refine WL.val ?_ ?_ (Runs.len rfl sl68) ?_; rfl; rfl) | (refine WL.val ?_ ?_ (Runs.len rfl sl86) ?_; rfl; rfl) | (refine WL.val ?_ ?_ (Runs.len rfl sl113) ?_; rfl; rfl) | (refine WL.pass ?_ ?_ ?_; rfl; rfl))
  refine WL.nil ?_
  repeat (first | refine AtExit.thenRet ?_ | refine AtExit.thenExit ?_ | refine AtExit.blockRet ?_ | refine AtExit.blockEnd ?_ | refine AtExit.blockExit ?_ | (refine AtExit.blockPast ?_ ?_; rfl))
  refine AtExit.go ?_
  refine WC.seq (WC.region ?_)
  repeat (first | (refine WL.val ?_ ?_ (Runs.move rfl) ?_; rfl; rfl) | (refine WL.val ?_ ?_ (Runs.assign rfl) ?_; rfl; rfl) | (refine WL.val ?_ ?_ (Runs.extract rfl rfl) ?_; rfl; rfl) | (refine WL.val ?_ ?_ (Runs.nilCheck rfl) ?_; rfl; rfl) | (refine WL.val ?_ ?_ (Runs.pickT rfl rfl) ?_; rfl; rfl) | (refine WL.val ?_ ?_ (Runs.pickF rfl rfl) ?_; rfl; rfl) | (refine WL.val ?_ ?_ (Runs.len rfl sl22) ?_; rfl; rfl) | (refine WL.val ?_ ?_ (Runs.len rfl sl23) ?_; rfl; rfl) | (refine WL.val ?_ ?_ (Runs.len rfl sl27) ?_; rfl; rfl) | (refine WL.val ?_ ?_ (Runs.len rfl sl28) ?_; rfl; rfl) | (refine WL.val ?_ ?_ (Runs.len rfl sl39) ?_; rfl; rfl) | (refine WL.val ?_ ?_ (Runs.len rfl sl64) ?_; rfl; rfl) | (refine WL.val ?_ ?_ (Runs.len rfl sl68) ?_; rfl; rfl) | (refine WL.val ?_ ?_ (Runs.len rfl sl86) ?_; rfl; rfl) | (refine WL.val ?_ ?_ (Runs.len rfl sl113) ?_; rfl; rfl) | (refine WL.pass ?_ ?_ ?_; rfl; rfl))
  refine WL.val rfl rfl (Runs.fld rfl fl30_2) ?_
  refine WL.val rfl rfl (Runs.load rfl na25 (v := .int .u64 (st : Int)) (by rw [cell_of I7.su.hq.clk]; rfl)) ?_
  repeat (first | (refine WL.val ?_ ?_ (Runs.move rfl) ?_; rfl; rfl) | (refine WL.val ?_ ?_ (Runs.assign rfl) ?_; rfl; rfl) | (refine WL.val ?_ ?_ (Runs.extract rfl rfl) ?_; rfl; rfl) | (refine WL.val ?_ ?_ (Runs.nilCheck rfl) ?_; rfl; rfl) | (refine WL.val ?_ ?_ (Runs.pickT rfl rfl) ?_; rfl; rfl) | (refine WL.val ?_ ?_ (Runs.pickF rfl rfl) ?_; rfl; rfl) | (refine WL.val ?_ ?_ (Runs.len rfl sl22) ?_; rfl; rfl) | (refine WL.val ?_ ?_ (Runs.len rfl sl23) ?_; rfl; rfl) | (refine WL.val ?_ ?_ (Runs.len rfl sl27) ?_; rfl; rfl) | (refine WL.val ?_ ?_ (Runs.len rfl sl28) ?_; rfl; rfl) | (refine WL.val ?_ ?_ (Runs.len rfl sl39) ?_; rfl; rfl) | (refine WL.val ?_ ?_ (Runs.len rfl sl64) ?_; rfl; rfl) | (refine WL.val ?_ ?_ (Runs.len rfl sl68) ?_; rfl; rfl) | (refine WL.val ?_ ?_ (Runs.len rfl sl86) ?_; rfl; rfl) | (refine WL.val ?_ ?_ (Runs.len rfl sl113) ?_; rfl; rfl) | (refine WL.pass ?_ ?_ ?_; rfl; rfl))
  refine WL.nil ?_
  repeat (first | refine AtExit.thenRet ?_ | refine AtExit.thenExit ?_ | refine AtExit.blockRet ?_ | refine AtExit.blockEnd ?_ | refine AtExit.blockExit ?_ | (refine AtExit.blockPast ?_ ?_; rfl))
  refine AtExit.go ?_
  refine WC.seq (WC.region ?_)
  repeat (first | (refine WL.val ?_ ?_ (Runs.move rfl) ?_; rfl; rfl) | (refine WL.val ?_ ?_ (Runs.assign rfl) ?_; rfl; rfl) | (refine WL.val ?_ ?_ (Runs.extract rfl rfl) ?_; rfl; rfl) | (refine WL.val ?_ ?_ (Runs.nilCheck rfl) ?_; rfl; rfl) | (refine WL.val ?_ ?_ (Runs.pickT rfl rfl) ?_; rfl; rfl) | (refine WL.val ?_ ?_ (Runs.pickF rfl rfl) ?_; rfl; rfl) | (refine WL.val ?_ ?_ (Runs.len rfl sl22) ?_; rfl; rfl) | (refine WL.val ?_ ?_ (Runs.len rfl sl23) ?_; rfl; rfl) | (refine WL.val ?_ ?_ (Runs.len rfl sl27) ?_; rfl; rfl) | (refine WL.val ?_ ?_ (Runs.len rfl sl28) ?_; rfl; rfl) | (refine WL.val ?_ ?_ (Runs.len rfl sl39) ?_; rfl; rfl) | (refine WL.val ?_ ?_ (Runs.len rfl sl64) ?_; rfl; rfl) | (refine WL.val ?_ ?_ (Runs.len rfl sl68) ?_; rfl; rfl) | (refine WL.val ?_ ?_ (Runs.len rfl sl86) ?_; rfl; rfl) | (refine WL.val ?_ ?_ (Runs.len rfl sl113) ?_; rfl; rfl) | (refine WL.pass ?_ ?_ ?_; rfl; rfl))
  refine WL.call rfl rfl (RunsC.call rfl en9) (off_any I7.su I7.ok (by rw [I7.tl]; omega) (fun t ht => by
    obtain ⟨_, _, h3, h4⟩ := I7.inb t ht
    omega)) ?_
  rintro e w8 ⟨vg, rfl, L, ts', vq, pL, sL, o8, nl8, q8, pm8, g8, m8, ob8, u8⟩
  refine ⟨_, rfl, ?_⟩
  have P8 := I7.off ⟨hBs.1, hBs.2.1, hBs.2.2.2⟩ o8 nl8 q8 pm8 g8 m8 u8
  have hvg : vg.oneCell' = true := by
    obtain ⟨p, c, rfl⟩ := o8.shape
    rfl
  refine WL.val rfl rfl (Runs.alloc in66) ?_
  refine WL.skip rfl (RunsS.storeRow rfl rfl (by simp [hvg]) sz66 (heap_new _ _) rfl) ?_
  refine WL.nil ?_
  repeat (first | refine AtExit.thenRet ?_ | refine AtExit.thenExit ?_ | refine AtExit.blockRet ?_ | refine AtExit.blockEnd ?_ | refine AtExit.blockExit ?_ | (refine AtExit.blockPast ?_ ?_; rfl))
  refine AtExit.go ?_
  obtain ⟨b9, x9, z9⟩ := newVar w8 (Value.agg #[.slice none 0 0]).cells #[vg] 66
  generalize (w8.alloc _).setRow _ _ = w9 at b9 x9 z9 ⊢
  obtain ⟨G, hG⟩ : ∃ C, C = w8.heap.size := ⟨_, rfl⟩
  have P9 := P8.below b9
  rw [← hG] at x9 ⊢
  obtain ⟨Es, pE, sE, hK⟩ := ents_sorted (now := now) I7.ok (fun t ht => (I7.inb t ht).1) pL sL
  rw [← hK] at P9
  have hE9 : ((runs M).map (en inf now)).length ≤ 9 := by rw [List.length_map]; exact I7.ln
  have hEx : ∀ e ∈ (runs M).map (en inf now), e.1 < 9 := fun e he => by
    obtain ⟨p, hp, rfl⟩ := List.mem_map.1 he
    obtain ⟨y, t⟩ := p
    exact I7.ok.K _ (mem_runs.1 hp)
  generalize (runs M).map (en inf now) = E at pE P9 hE9 hEx
  have hnd : E.Nodup := pE.nodup_iff.1 (sorted_nodup sE)
  have hFl : F.length ≤ 4096 := by have := I7.pm.length_eq; rw [List.length_append, I7.tl] at this; omega
  clear I7 P8 o8 nl8 q8 pm8 g8 m8 u8 ob8 pL sL hK b9 z9
  obtain ⟨pr, cr, rfl⟩ := P9.run.shape
  obtain ⟨pf, cf, rfl⟩ := P9.frn.shape
  refine WC.seq (WC.region ?_)
  repeat (first | (refine WL.val ?_ ?_ (Runs.move rfl) ?_; rfl; rfl) | (refine WL.val ?_ ?_ (Runs.assign rfl) ?_; rfl; rfl) | (refine WL.val ?_ ?_ (Runs.extract rfl rfl) ?_; rfl; rfl) | (refine WL.val ?_ ?_ (Runs.nilCheck rfl) ?_; rfl; rfl) | (refine WL.val ?_ ?_ (Runs.pickT rfl rfl) ?_; rfl; rfl) | (refine WL.val ?_ ?_ (Runs.pickF rfl rfl) ?_; rfl; rfl) | (refine WL.val ?_ ?_ (Runs.len rfl sl22) ?_; rfl; rfl) | (refine WL.val ?_ ?_ (Runs.len rfl sl23) ?_; rfl; rfl) | (refine WL.val ?_ ?_ (Runs.len rfl sl27) ?_; rfl; rfl) | (refine WL.val ?_ ?_ (Runs.len rfl sl28) ?_; rfl; rfl) | (refine WL.val ?_ ?_ (Runs.len rfl sl39) ?_; rfl; rfl) | (refine WL.val ?_ ?_ (Runs.len rfl sl64) ?_; rfl; rfl) | (refine WL.val ?_ ?_ (Runs.len rfl sl68) ?_; rfl; rfl) | (refine WL.val ?_ ?_ (Runs.len rfl sl86) ?_; rfl; rfl) | (refine WL.val ?_ ?_ (Runs.len rfl sl113) ?_; rfl; rfl) | (refine WL.pass ?_ ?_ ?_; rfl; rfl))
  refine WL.val rfl rfl (Runs.make rfl rfl Yba.underlying68 in4 rfl (by omega) (by omega)) ?_
  repeat (first | (refine WL.val ?_ ?_ (Runs.move rfl) ?_; rfl; rfl) | (refine WL.val ?_ ?_ (Runs.assign rfl) ?_; rfl; rfl) | (refine WL.val ?_ ?_ (Runs.extract rfl rfl) ?_; rfl; rfl) | (refine WL.val ?_ ?_ (Runs.nilCheck rfl) ?_; rfl; rfl) | (refine WL.val ?_ ?_ (Runs.pickT rfl rfl) ?_; rfl; rfl) | (refine WL.val ?_ ?_ (Runs.pickF rfl rfl) ?_; rfl; rfl) | (refine WL.val ?_ ?_ (Runs.len rfl sl22) ?_; rfl; rfl) | (refine WL.val ?_ ?_ (Runs.len rfl sl23) ?_; rfl; rfl) | (refine WL.val ?_ ?_ (Runs.len rfl sl27) ?_; rfl; rfl) | (refine WL.val ?_ ?_ (Runs.len rfl sl28) ?_; rfl; rfl) | (refine WL.val ?_ ?_ (Runs.len rfl sl39) ?_; rfl; rfl) | (refine WL.val ?_ ?_ (Runs.len rfl sl64) ?_; rfl; rfl) | (refine WL.val ?_ ?_ (Runs.len rfl sl68) ?_; rfl; rfl) | (refine WL.val ?_ ?_ (Runs.len rfl sl86) ?_; rfl; rfl) | (refine WL.val ?_ ?_ (Runs.len rfl sl113) ?_; rfl; rfl) | (refine WL.pass ?_ ?_ ?_; rfl; rfl))
  refine WL.nil ?_
  repeat (first | refine AtExit.thenRet ?_ | refine AtExit.thenExit ?_ | refine AtExit.blockRet ?_ | refine AtExit.blockEnd ?_ | refine AtExit.blockExit ?_ | (refine AtExit.blockPast ?_ ?_; rfl))
  refine AtExit.go ?_
  have b10 := below_new w9 (.cells (Array.replicate E.length (.bool false)) 4) (Nat.le_refl _)
  have y10 := heap_new w9 (.cells (Array.replicate E.length (.bool false)) 4)
  generalize w9.alloc _ = w10 at b10 y10 ⊢
  obtain ⟨gu, hgu⟩ : ∃ C, C = w9.heap.size := ⟨_, rfl⟩
  rw [← hgu] at y10 ⊢
  have r10 : RwA bC 4 w10 gu (List.replicate E.length false) := ⟨[], by rw [y10, flat_bC, List.append_nil, List.toArray_replicate]⟩
  refine WC.seq (WC.region ?_)
  repeat (first | (refine WL.val ?_ ?_ (Runs.move rfl) ?_; rfl; rfl) | (refine WL.val ?_ ?_ (Runs.assign rfl) ?_; rfl; rfl) | (refine WL.val ?_ ?_ (Runs.extract rfl rfl) ?_; rfl; rfl) | (refine WL.val ?_ ?_ (Runs.nilCheck rfl) ?_; rfl; rfl) | (refine WL.val ?_ ?_ (Runs.pickT rfl rfl) ?_; rfl; rfl) | (refine WL.val ?_ ?_ (Runs.pickF rfl rfl) ?_; rfl; rfl) | (refine WL.val ?_ ?_ (Runs.len rfl sl22) ?_; rfl; rfl) | (refine WL.val ?_ ?_ (Runs.len rfl sl23) ?_; rfl; rfl) | (refine WL.val ?_ ?_ (Runs.len rfl sl27) ?_; rfl; rfl) | (refine WL.val ?_ ?_ (Runs.len rfl sl28) ?_; rfl; rfl) | (refine WL.val ?_ ?_ (Runs.len rfl sl39) ?_; rfl; rfl) | (refine WL.val ?_ ?_ (Runs.len rfl sl64) ?_; rfl; rfl) | (refine WL.val ?_ ?_ (Runs.len rfl sl68) ?_; rfl; rfl) | (refine WL.val ?_ ?_ (Runs.len rfl sl86) ?_; rfl; rfl) | (refine WL.val ?_ ?_ (Runs.len rfl sl113) ?_; rfl; rfl) | (refine WL.pass ?_ ?_ ?_; rfl; rfl))
  refine WL.val rfl rfl (Runs.makeLC rfl rfl Yba.underlying64 in70 (by omega) (by omega)) ?_
  repeat (first | (refine WL.val ?_ ?_ (Runs.move rfl) ?_; rfl; rfl) | (refine WL.val ?_ ?_ (Runs.assign rfl) ?_; rfl; rfl) | (refine WL.val ?_ ?_ (Runs.extract rfl rfl) ?_; rfl; rfl) | (refine WL.val ?_ ?_ (Runs.nilCheck rfl) ?_; rfl; rfl) | (refine WL.val ?_ ?_ (Runs.pickT rfl rfl) ?_; rfl; rfl) | (refine WL.val ?_ ?_ (Runs.pickF rfl rfl) ?_; rfl; rfl) | (refine WL.val ?_ ?_ (Runs.len rfl sl22) ?_; rfl; rfl) | (refine WL.val ?_ ?_ (Runs.len rfl sl23) ?_; rfl; rfl) | (refine WL.val ?_ ?_ (Runs.len rfl sl27) ?_; rfl; rfl) | (refine WL.val ?_ ?_ (Runs.len rfl sl28) ?_; rfl; rfl) | (refine WL.val ?_ ?_ (Runs.len rfl sl39) ?_; rfl; rfl) | (refine WL.val ?_ ?_ (Runs.len rfl sl64) ?_; rfl; rfl) | (refine WL.val ?_ ?_ (Runs.len rfl sl68) ?_; rfl; rfl) | (refine WL.val ?_ ?_ (Runs.len rfl sl86) ?_; rfl; rfl) | (refine WL.val ?_ ?_ (Runs.len rfl sl113) ?_; rfl; rfl) | (refine WL.pass ?_ ?_ ?_; rfl; rfl))
  refine WL.nil ?_
  repeat (first | refine AtExit.thenRet ?_ | refine AtExit.thenExit ?_ | refine AtExit.blockRet ?_ | refine AtExit.blockEnd ?_ | refine AtExit.blockExit ?_ | (refine AtExit.blockPast ?_ ?_; rfl))
  refine AtExit.go ?_
  have b11 := below_new w10 (.cells (madeCells (Value.agg #[.string ⟨#[]⟩, .string ⟨#[]⟩, .int .u8 0, .int .u32 0, .bool false, .bool false, .int .i64 0]).cells (E.length * 7)) 70) (Nat.le_refl _)
  have o11 := own_made (N := w9.heap.size) (m := E.length) (w := w10) b10.size (by omega)
  have r11 := r10.below b11
  generalize w10.alloc _ = w11 at b11 o11 r11 ⊢
  have bb11 : Below w9.heap.size w9 w11 := Below.up b10 b11
  clear b10 b11 r10 y10
  generalize Value.slice (some ⟨w10.heap.size, 0, none⟩) 0 E.length = vw0 at o11 ⊢
  refine WC.cut (α := Value) (fun vw => [(7, .int .i64 now), (8, pv C), (9, pv cnt), (11, pv U), (15, .slice pf F.length cf), (25, .int .i64 (calls : Int)), (26, .int .u64 (st : Int)), (27, pv G), (29, vw)]) (fun vw w' => Below w9.heap.size w9 w' ∧ OwnA keptC 7 70 w9.heap.size w' vw (Es.map ek)) ?_ ?_
  · refine WC.seq (WC.region ?_)
    repeat (first | (refine WL.val ?_ ?_ (Runs.move rfl) ?_; rfl; rfl) | (refine WL.val ?_ ?_ (Runs.assign rfl) ?_; rfl; rfl) | (refine WL.val ?_ ?_ (Runs.extract rfl rfl) ?_; rfl; rfl) | (refine WL.val ?_ ?_ (Runs.nilCheck rfl) ?_; rfl; rfl) | (refine WL.val ?_ ?_ (Runs.pickT rfl rfl) ?_; rfl; rfl) | (refine WL.val ?_ ?_ (Runs.pickF rfl rfl) ?_; rfl; rfl) | (refine WL.val ?_ ?_ (Runs.len rfl sl22) ?_; rfl; rfl) | (refine WL.val ?_ ?_ (Runs.len rfl sl23) ?_; rfl; rfl) | (refine WL.val ?_ ?_ (Runs.len rfl sl27) ?_; rfl; rfl) | (refine WL.val ?_ ?_ (Runs.len rfl sl28) ?_; rfl; rfl) | (refine WL.val ?_ ?_ (Runs.len rfl sl39) ?_; rfl; rfl) | (refine WL.val ?_ ?_ (Runs.len rfl sl64) ?_; rfl; rfl) | (refine WL.val ?_ ?_ (Runs.len rfl sl68) ?_; rfl; rfl) | (refine WL.val ?_ ?_ (Runs.len rfl sl86) ?_; rfl; rfl) | (refine WL.val ?_ ?_ (Runs.len rfl sl113) ?_; rfl; rfl) | (refine WL.pass ?_ ?_ ?_; rfl; rfl))
    refine WL.nil ?_
    repeat (first | refine AtExit.thenRet ?_ | refine AtExit.thenExit ?_ | refine AtExit.blockRet ?_ | refine AtExit.blockEnd ?_ | refine AtExit.blockExit ?_ | (refine AtExit.blockPast ?_ ?_; rfl))
    refine AtExit.go ?_
    refine WC.block ?_
    refine WC.loop (α := Nat × List Bool × Value)
      (fun | (n, _, vw) => [(7, .int .i64 now), (8, pv C), (9, pv cnt), (11, pv U), (14, .slice pr E.length cr), (15, .slice pf F.length cf), (25, .int .i64 (calls : Int)), (26, .int .u64 (st : Int)), (27, pv G), (28, .slice (some ⟨gu, 0, none⟩) E.length E.length), (29, vw), (30, .int .i64 (n : Int))])
      (fun | (n, u, vw) => fun w' => n ≤ E.length ∧ Below w9.heap.size w9 w' ∧ RwA bC 4 w' gu u ∧ Fl E Es n u ∧ OwnA keptC 7 70 w9.heap.size w' vw ((Es.take n).map ek)) (fun | (n, _) => E.length - n)
      (0, List.replicate E.length false, vw0) (by repeat (first | exact Sub.nil _ | refine Sub.cons rfl ?_)) ⟨Nat.zero_le _, bb11, r11, ⟨by simp, fun j e hj => by simp [List.getElem?_replicate]⟩, by simpa using o11⟩ ?_
    clear bb11 r11 o11
    rintro ⟨n, u, vw⟩ w12 ⟨hn, b12, r12, f12, o12⟩
    refine WC.seq ?_
    refine WC.seq (WC.region ?_)
    repeat (first | (refine WL.val ?_ ?_ (Runs.move rfl) ?_; rfl; rfl) | (refine WL.val ?_ ?_ (Runs.assign rfl) ?_; rfl; rfl) | (refine WL.val ?_ ?_ (Runs.extract rfl rfl) ?_; rfl; rfl) | (refine WL.val ?_ ?_ (Runs.nilCheck rfl) ?_; rfl; rfl) | (refine WL.val ?_ ?_ (Runs.pickT rfl rfl) ?_; rfl; rfl) | (refine WL.val ?_ ?_ (Runs.pickF rfl rfl) ?_; rfl; rfl) | (refine WL.val ?_ ?_ (Runs.len rfl sl22) ?_; rfl; rfl) | (refine WL.val ?_ ?_ (Runs.len rfl sl23) ?_; rfl; rfl) | (refine WL.val ?_ ?_ (Runs.len rfl sl27) ?_; rfl; rfl) | (refine WL.val ?_ ?_ (Runs.len rfl sl28) ?_; rfl; rfl) | (refine WL.val ?_ ?_ (Runs.len rfl sl39) ?_; rfl; rfl) | (refine WL.val ?_ ?_ (Runs.len rfl sl64) ?_; rfl; rfl) | (refine WL.val ?_ ?_ (Runs.len rfl sl68) ?_; rfl; rfl) | (refine WL.val ?_ ?_ (Runs.len rfl sl86) ?_; rfl; rfl) | (refine WL.val ?_ ?_ (Runs.len rfl sl113) ?_; rfl; rfl) | (refine WL.pass ?_ ?_ ?_; rfl; rfl))
    by_cases hnl : n < E.length
    case neg =>
      refine WL.val rfl rfl (Runs.lss rfl rfl (decge hnl)) ?_
      refine WL.nil ?_
      repeat (first | refine AtExit.thenRet ?_ | refine AtExit.thenExit ?_ | refine AtExit.blockRet ?_ | refine AtExit.blockEnd ?_ | refine AtExit.blockExit ?_ | (refine AtExit.blockPast ?_ ?_; rfl))
      refine AtExit.go ?_
      refine WC.condF rfl ?_
      refine WC.exit ?_
      repeat (first | refine AtExit.thenRet ?_ | refine AtExit.thenExit ?_ | refine AtExit.blockRet ?_ | refine AtExit.blockEnd ?_ | refine AtExit.blockExit ?_ | (refine AtExit.blockPast ?_ ?_; rfl))
      refine AtExit.inv fun av hv => ⟨vw, hv.sub (by repeat (first | exact Sub.nil _ | refine Sub.cons rfl ?_)), b12, ?_⟩
      rw [List.take_of_length_le (by rw [pE.length_eq]; omega)] at o12
      exact o12
    refine WL.val rfl rfl (Runs.lss rfl rfl (declt hnl)) ?_
    refine WL.nil ?_
    repeat (first | refine AtExit.thenRet ?_ | refine AtExit.thenExit ?_ | refine AtExit.blockRet ?_ | refine AtExit.blockEnd ?_ | refine AtExit.blockExit ?_ | (refine AtExit.blockPast ?_ ?_; rfl))
    refine AtExit.go ?_
    refine WC.condT rfl ?_
    refine WC.skip ?_
    repeat (first | refine AtExit.thenRet ?_ | refine AtExit.thenExit ?_ | refine AtExit.blockRet ?_ | refine AtExit.blockEnd ?_ | refine AtExit.blockExit ?_ | (refine AtExit.blockPast ?_ ?_; rfl))
    refine AtExit.go ?_
    obtain ⟨gr, cr', er, _, rE⟩ := P9.run.row (by omega)
    cases er
    refine WC.seq (WC.block ?_)
    refine WC.seq (WC.region ?_)
    repeat (first | (refine WL.val ?_ ?_ (Runs.move rfl) ?_; rfl; rfl) | (refine WL.val ?_ ?_ (Runs.assign rfl) ?_; rfl; rfl) | (refine WL.val ?_ ?_ (Runs.extract rfl rfl) ?_; rfl; rfl) | (refine WL.val ?_ ?_ (Runs.nilCheck rfl) ?_; rfl; rfl) | (refine WL.val ?_ ?_ (Runs.pickT rfl rfl) ?_; rfl; rfl) | (refine WL.val ?_ ?_ (Runs.pickF rfl rfl) ?_; rfl; rfl) | (refine WL.val ?_ ?_ (Runs.len rfl sl22) ?_; rfl; rfl) | (refine WL.val ?_ ?_ (Runs.len rfl sl23) ?_; rfl; rfl) | (refine WL.val ?_ ?_ (Runs.len rfl sl27) ?_; rfl; rfl) | (refine WL.val ?_ ?_ (Runs.len rfl sl28) ?_; rfl; rfl) | (refine WL.val ?_ ?_ (Runs.len rfl sl39) ?_; rfl; rfl) | (refine WL.val ?_ ?_ (Runs.len rfl sl64) ?_; rfl; rfl) | (refine WL.val ?_ ?_ (Runs.len rfl sl68) ?_; rfl; rfl) | (refine WL.val ?_ ?_ (Runs.len rfl sl86) ?_; rfl; rfl) | (refine WL.val ?_ ?_ (Runs.len rfl sl113) ?_; rfl; rfl) | (refine WL.pass ?_ ?_ ?_; rfl; rfl))
    refine WL.nil ?_
    repeat (first | refine AtExit.thenRet ?_ | refine AtExit.thenExit ?_ | refine AtExit.blockRet ?_ | refine AtExit.blockEnd ?_ | refine AtExit.blockExit ?_ | (refine AtExit.blockPast ?_ ?_; rfl))
    refine AtExit.go ?_
    refine WC.cut (α := Nat) (fun b => [(7, .int .i64 now), (8, pv C), (9, pv cnt), (11, pv U), (14, .slice (some ⟨gr, 0, none⟩) E.length cr), (15, .slice pf F.length cf), (25, .int .i64 (calls : Int)), (26, .int .u64 (st : Int)), (27, pv G), (28, .slice (some ⟨gu, 0, none⟩) E.length E.length), (29, vw), (30, .int .i64 (n : Int)), (31, .int .i64 (b : Int))])
      (fun b w' => Below w12.heap.size w12 w' ∧ ∃ eb, E[b]? = some eb ∧ Es[n]? = some eb) ?_ ?_
    · refine WC.seq (WC.region ?_)
      repeat (first | (refine WL.val ?_ ?_ (Runs.move rfl) ?_; rfl; rfl) | (refine WL.val ?_ ?_ (Runs.assign rfl) ?_; rfl; rfl) | (refine WL.val ?_ ?_ (Runs.extract rfl rfl) ?_; rfl; rfl) | (refine WL.val ?_ ?_ (Runs.nilCheck rfl) ?_; rfl; rfl) | (refine WL.val ?_ ?_ (Runs.pickT rfl rfl) ?_; rfl; rfl) | (refine WL.val ?_ ?_ (Runs.pickF rfl rfl) ?_; rfl; rfl) | (refine WL.val ?_ ?_ (Runs.len rfl sl22) ?_; rfl; rfl) | (refine WL.val ?_ ?_ (Runs.len rfl sl23) ?_; rfl; rfl) | (refine WL.val ?_ ?_ (Runs.len rfl sl27) ?_; rfl; rfl) | (refine WL.val ?_ ?_ (Runs.len rfl sl28) ?_; rfl; rfl) | (refine WL.val ?_ ?_ (Runs.len rfl sl39) ?_; rfl; rfl) | (refine WL.val ?_ ?_ (Runs.len rfl sl64) ?_; rfl; rfl) | (refine WL.val ?_ ?_ (Runs.len rfl sl68) ?_; rfl; rfl) | (refine WL.val ?_ ?_ (Runs.len rfl sl86) ?_; rfl; rfl) | (refine WL.val ?_ ?_ (Runs.len rfl sl113) ?_; rfl; rfl) | (refine WL.pass ?_ ?_ ?_; rfl; rfl))
      refine WL.nil ?_
      repeat (first | refine AtExit.thenRet ?_ | refine AtExit.thenExit ?_ | refine AtExit.blockRet ?_ | refine AtExit.blockEnd ?_ | refine AtExit.blockExit ?_ | (refine AtExit.blockPast ?_ ?_; rfl))
      refine AtExit.go ?_
      refine WC.block ?_
      refine WC.loop (α := Nat × Option Nat)
        (fun | (j, o) => [(7, .int .i64 now), (8, pv C), (9, pv cnt), (11, pv U), (14, .slice (some ⟨gr, 0, none⟩) E.length cr), (15, .slice pf F.length cf), (25, .int .i64 (calls : Int)), (26, .int .u64 (st : Int)), (27, pv G), (28, .slice (some ⟨gu, 0, none⟩) E.length E.length), (29, vw), (30, .int .i64 (n : Int)), (31, .int .i64 (bI o)), (32, .int .i64 (j : Int))])
        (fun | (j, o) => fun w' => Below w12.heap.size w12 w' ∧ BI E Es n j o) (fun | (j, _) => E.length - j) (0, none) (by repeat (first | exact Sub.nil _ | refine Sub.cons rfl ?_)) ⟨Below.refl _ _, fun j' e h => absurd h (by omega)⟩ ?_
      rintro ⟨j, o⟩ w13 ⟨b13, hB⟩
      refine WC.seq ?_
      refine WC.seq (WC.region ?_)
      repeat (first | (refine WL.val ?_ ?_ (Runs.move rfl) ?_; rfl; rfl) | (refine WL.val ?_ ?_ (Runs.assign rfl) ?_; rfl; rfl) | (refine WL.val ?_ ?_ (Runs.extract rfl rfl) ?_; rfl; rfl) | (refine WL.val ?_ ?_ (Runs.nilCheck rfl) ?_; rfl; rfl) | (refine WL.val ?_ ?_ (Runs.pickT rfl rfl) ?_; rfl; rfl) | (refine WL.val ?_ ?_ (Runs.pickF rfl rfl) ?_; rfl; rfl) | (refine WL.val ?_ ?_ (Runs.len rfl sl22) ?_; rfl; rfl) | (refine WL.val ?_ ?_ (Runs.len rfl sl23) ?_; rfl; rfl) | (refine WL.val ?_ ?_ (Runs.len rfl sl27) ?_; rfl; rfl) | (refine WL.val ?_ ?_ (Runs.len rfl sl28) ?_; rfl; rfl) | (refine WL.val ?_ ?_ (Runs.len rfl sl39) ?_; rfl; rfl) | (refine WL.val ?_ ?_ (Runs.len rfl sl64) ?_; rfl; rfl) | (refine WL.val ?_ ?_ (Runs.len rfl sl68) ?_; rfl; rfl) | (refine WL.val ?_ ?_ (Runs.len rfl sl86) ?_; rfl; rfl) | (refine WL.val ?_ ?_ (Runs.len rfl sl113) ?_; rfl; rfl) | (refine WL.pass ?_ ?_ ?_; rfl; rfl))
      by_cases hjl : j < E.length
      case neg =>
        refine WL.val rfl rfl (Runs.lss rfl rfl (decge hjl)) ?_
        refine WL.nil ?_
        repeat (first | refine AtExit.thenRet ?_ | refine AtExit.thenExit ?_ | refine AtExit.blockRet ?_ | refine AtExit.blockEnd ?_ | refine AtExit.blockExit ?_ | (refine AtExit.blockPast ?_ ?_; rfl))
        refine AtExit.go ?_
        refine WC.condF rfl ?_
        refine WC.exit ?_
        repeat (first | refine AtExit.thenRet ?_ | refine AtExit.thenExit ?_ | refine AtExit.blockRet ?_ | refine AtExit.blockEnd ?_ | refine AtExit.blockExit ?_ | (refine AtExit.blockPast ?_ ?_; rfl))
        cases o with
        | none =>
          obtain ⟨j', e, h1, h2⟩ := some_left pE sE hnl
          exact absurd (hB j' e (by have := (List.getElem?_eq_some_iff.1 h1).1; omega) h1) h2
        | some b =>
          obtain ⟨eb, h1, h2, h3⟩ := hB
          refine AtExit.inv fun av hv => ⟨b, hv.sub (by repeat (first | exact Sub.nil _ | refine Sub.cons rfl ?_)), b13, eb, h1, pick_is pE sE hnl h1 h2 (fun j' e hj' hn' => h3 j' e (by have := (List.getElem?_eq_some_iff.1 hj').1; omega) hj' hn')⟩
      refine WL.val rfl rfl (Runs.lss rfl rfl (declt hjl)) ?_
      refine WL.nil ?_
      repeat (first | refine AtExit.thenRet ?_ | refine AtExit.thenExit ?_ | refine AtExit.blockRet ?_ | refine AtExit.blockEnd ?_ | refine AtExit.blockExit ?_ | (refine AtExit.blockPast ?_ ?_; rfl))
      refine AtExit.go ?_
      refine WC.condT rfl ?_
      refine WC.skip ?_
      repeat (first | refine AtExit.thenRet ?_ | refine AtExit.thenExit ?_ | refine AtExit.blockRet ?_ | refine AtExit.blockEnd ?_ | refine AtExit.blockExit ?_ | (refine AtExit.blockPast ?_ ?_; rfl))
      refine AtExit.go ?_
      obtain ⟨ej, hej⟩ : ∃ e, E[j]? = some e := ⟨_, List.getElem?_eq_getElem hjl⟩
      refine WC.cut (α := Option Nat)
        (fun o => [(7, .int .i64 now), (8, pv C), (9, pv cnt), (11, pv U), (14, .slice (some ⟨gr, 0, none⟩) E.length cr), (15, .slice pf F.length cf), (25, .int .i64 (calls : Int)), (26, .int .u64 (st : Int)), (27, pv G), (28, .slice (some ⟨gu, 0, none⟩) E.length E.length), (29, vw), (30, .int .i64 (n : Int)), (31, .int .i64 (bI o)), (32, .int .i64 (j : Int))])
        (fun o w' => Below w12.heap.size w12 w' ∧ BI E Es n (j + 1) o) ?_ ?_
      case refine_2 =>
        rintro o' w14 ⟨b14, hB'⟩
        refine WC.region ?_
        repeat (first | (refine WL.val ?_ ?_ (Runs.move rfl) ?_; rfl; rfl) | (refine WL.val ?_ ?_ (Runs.assign rfl) ?_; rfl; rfl) | (refine WL.val ?_ ?_ (Runs.extract rfl rfl) ?_; rfl; rfl) | (refine WL.val ?_ ?_ (Runs.nilCheck rfl) ?_; rfl; rfl) | (refine WL.val ?_ ?_ (Runs.pickT rfl rfl) ?_; rfl; rfl) | (refine WL.val ?_ ?_ (Runs.pickF rfl rfl) ?_; rfl; rfl) | (refine WL.val ?_ ?_ (Runs.len rfl sl22) ?_; rfl; rfl) | (refine WL.val ?_ ?_ (Runs.len rfl sl23) ?_; rfl; rfl) | (refine WL.val ?_ ?_ (Runs.len rfl sl27) ?_; rfl; rfl) | (refine WL.val ?_ ?_ (Runs.len rfl sl28) ?_; rfl; rfl) | (refine WL.val ?_ ?_ (Runs.len rfl sl39) ?_; rfl; rfl) | (refine WL.val ?_ ?_ (Runs.len rfl sl64) ?_; rfl; rfl) | (refine WL.val ?_ ?_ (Runs.len rfl sl68) ?_; rfl; rfl) | (refine WL.val ?_ ?_ (Runs.len rfl sl86) ?_; rfl; rfl) | (refine WL.val ?_ ?_ (Runs.len rfl sl113) ?_; rfl; rfl) | (refine WL.pass ?_ ?_ ?_; rfl; rfl))
        refine WL.val rfl rfl (Runs.add rfl rfl (r := ((j + 1 : Nat) : Int)) (wI (by omega) (by omega) (by omega))) ?_
        repeat (first | (refine WL.val ?_ ?_ (Runs.move rfl) ?_; rfl; rfl) | (refine WL.val ?_ ?_ (Runs.assign rfl) ?_; rfl; rfl) | (refine WL.val ?_ ?_ (Runs.extract rfl rfl) ?_; rfl; rfl) | (refine WL.val ?_ ?_ (Runs.nilCheck rfl) ?_; rfl; rfl) | (refine WL.val ?_ ?_ (Runs.pickT rfl rfl) ?_; rfl; rfl) | (refine WL.val ?_ ?_ (Runs.pickF rfl rfl) ?_; rfl; rfl) | (refine WL.val ?_ ?_ (Runs.len rfl sl22) ?_; rfl; rfl) | (refine WL.val ?_ ?_ (Runs.len rfl sl23) ?_; rfl; rfl) | (refine WL.val ?_ ?_ (Runs.len rfl sl27) ?_; rfl; rfl) | (refine WL.val ?_ ?_ (Runs.len rfl sl28) ?_; rfl; rfl) | (refine WL.val ?_ ?_ (Runs.len rfl sl39) ?_; rfl; rfl) | (refine WL.val ?_ ?_ (Runs.len rfl sl64) ?_; rfl; rfl) | (refine WL.val ?_ ?_ (Runs.len rfl sl68) ?_; rfl; rfl) | (refine WL.val ?_ ?_ (Runs.len rfl sl86) ?_; rfl; rfl) | (refine WL.val ?_ ?_ (Runs.len rfl sl113) ?_; rfl; rfl) | (refine WL.pass ?_ ?_ ?_; rfl; rfl))
        refine WL.nil ?_
        repeat (first | refine AtExit.thenRet ?_ | refine AtExit.thenExit ?_ | refine AtExit.blockRet ?_ | refine AtExit.blockEnd ?_ | refine AtExit.blockExit ?_ | (refine AtExit.blockPast ?_ ?_; rfl))
        refine AtExit.inv fun av hv => ⟨(j + 1, o'), hv.sub (by repeat (first | exact Sub.nil _ | refine Sub.cons rfl ?_)), ⟨b14, hB'⟩, by show E.length - (j + 1) < E.length - j; omega⟩
      refine WC.block ?_
      refine WC.seq ?_
      refine WC.seq (WC.region ?_)
      repeat (first | (refine WL.val ?_ ?_ (Runs.move rfl) ?_; rfl; rfl) | (refine WL.val ?_ ?_ (Runs.assign rfl) ?_; rfl; rfl) | (refine WL.val ?_ ?_ (Runs.extract rfl rfl) ?_; rfl; rfl) | (refine WL.val ?_ ?_ (Runs.nilCheck rfl) ?_; rfl; rfl) | (refine WL.val ?_ ?_ (Runs.pickT rfl rfl) ?_; rfl; rfl) | (refine WL.val ?_ ?_ (Runs.pickF rfl rfl) ?_; rfl; rfl) | (refine WL.val ?_ ?_ (Runs.len rfl sl22) ?_; rfl; rfl) | (refine WL.val ?_ ?_ (Runs.len rfl sl23) ?_; rfl; rfl) | (refine WL.val ?_ ?_ (Runs.len rfl sl27) ?_; rfl; rfl) | (refine WL.val ?_ ?_ (Runs.len rfl sl28) ?_; rfl; rfl) | (refine WL.val ?_ ?_ (Runs.len rfl sl39) ?_; rfl; rfl) | (refine WL.val ?_ ?_ (Runs.len rfl sl64) ?_; rfl; rfl) | (refine WL.val ?_ ?_ (Runs.len rfl sl68) ?_; rfl; rfl) | (refine WL.val ?_ ?_ (Runs.len rfl sl86) ?_; rfl; rfl) | (refine WL.val ?_ ?_ (Runs.len rfl sl113) ?_; rfl; rfl) | (refine WL.pass ?_ ?_ ?_; rfl; rfl))
      refine WL.val rfl rfl (Runs.idx rfl rfl Yba.underlying68 sz4 rfl hjl) ?_
      rcases f12.at hej with ⟨hu, hm⟩ | ⟨hu, hm⟩
      · refine WL.val rfl rfl (Runs.load rfl na4 (v := .bool true) ((r12.below b13).cell bC_len hu (j := 0) rfl)) ?_
        refine WL.nil ?_
        repeat (first | refine AtExit.thenRet ?_ | refine AtExit.thenExit ?_ | refine AtExit.blockRet ?_ | refine AtExit.blockEnd ?_ | refine AtExit.blockExit ?_ | (refine AtExit.blockPast ?_ ?_; rfl))
        refine AtExit.go ?_
        refine WC.condT rfl ?_
        refine WC.exit ?_
        repeat (first | refine AtExit.thenRet ?_ | refine AtExit.thenExit ?_ | refine AtExit.blockRet ?_ | refine AtExit.blockEnd ?_ | refine AtExit.blockExit ?_ | (refine AtExit.blockPast ?_ ?_; rfl))
        refine AtExit.inv fun av hv => ⟨o, hv.sub (by repeat (first | exact Sub.nil _ | refine Sub.cons rfl ?_)), b13, hB.used hej hm⟩
      refine WL.val rfl rfl (Runs.load rfl na4 (v := .bool false) ((r12.below b13).cell bC_len hu (j := 0) rfl)) ?_
      refine WL.nil ?_
      repeat (first | refine AtExit.thenRet ?_ | refine AtExit.thenExit ?_ | refine AtExit.blockRet ?_ | refine AtExit.blockEnd ?_ | refine AtExit.blockExit ?_ | (refine AtExit.blockPast ?_ ?_; rfl))
      refine AtExit.go ?_
      refine WC.condF rfl ?_
      refine WC.skip ?_
      repeat (first | refine AtExit.thenRet ?_ | refine AtExit.thenExit ?_ | refine AtExit.blockRet ?_ | refine AtExit.blockEnd ?_ | refine AtExit.blockExit ?_ | (refine AtExit.blockPast ?_ ?_; rfl))
      refine AtExit.go ?_
      have hbd : Below w13.heap.size w13 w13.drew := below_drawn _ _ _
      have rq : ∀ wq, Below w13.heap.size w13 wq → RwA entC 61 wq gr E := fun wq hb => rE.below ((b12.trans (b13.mono b12.size)).trans (hb.mono (Nat.le_trans b12.size b13.size)))
      refine WC.seq (WC.quiet (fun wq => Below w13.heap.size w13 wq) mixed (by kernel_rfl) hbd ?_)
      cases o with
      | none =>
        repeat (first | (refine QL.val ?_ ?_ (fun wq hC => Runs.move rfl) ?_; rfl; rfl) | (refine QL.val ?_ ?_ (fun wq hC => Runs.assign rfl) ?_; rfl; rfl) | (refine QL.val ?_ ?_ (fun wq hC => Runs.extract rfl rfl) ?_; rfl; rfl) | (refine QL.val ?_ ?_ (fun wq hC => Runs.nilCheck rfl) ?_; rfl; rfl) | (refine QL.val ?_ ?_ (fun wq hC => Runs.pickT rfl rfl) ?_; rfl; rfl) | (refine QL.val ?_ ?_ (fun wq hC => Runs.pickF rfl rfl) ?_; rfl; rfl) | (refine QL.val ?_ ?_ (fun wq hC => Runs.len rfl sl22) ?_; rfl; rfl) | (refine QL.val ?_ ?_ (fun wq hC => Runs.len rfl sl23) ?_; rfl; rfl) | (refine QL.val ?_ ?_ (fun wq hC => Runs.len rfl sl27) ?_; rfl; rfl) | (refine QL.val ?_ ?_ (fun wq hC => Runs.len rfl sl28) ?_; rfl; rfl) | (refine QL.val ?_ ?_ (fun wq hC => Runs.len rfl sl39) ?_; rfl; rfl) | (refine QL.val ?_ ?_ (fun wq hC => Runs.len rfl sl64) ?_; rfl; rfl) | (refine QL.val ?_ ?_ (fun wq hC => Runs.len rfl sl68) ?_; rfl; rfl) | (refine QL.val ?_ ?_ (fun wq hC => Runs.len rfl sl86) ?_; rfl; rfl) | (refine QL.val ?_ ?_ (fun wq hC => Runs.len rfl sl113) ?_; rfl; rfl) | (refine QL.pass ?_ ?_ ?_; rfl; rfl))
        refine QL.val rfl rfl (fun wq hC => Runs.lss rfl rfl (r := true) (by decide)) ?_
        repeat (first | (refine QL.val ?_ ?_ (fun wq hC => Runs.move rfl) ?_; rfl; rfl) | (refine QL.val ?_ ?_ (fun wq hC => Runs.assign rfl) ?_; rfl; rfl) | (refine QL.val ?_ ?_ (fun wq hC => Runs.extract rfl rfl) ?_; rfl; rfl) | (refine QL.val ?_ ?_ (fun wq hC => Runs.nilCheck rfl) ?_; rfl; rfl) | (refine QL.val ?_ ?_ (fun wq hC => Runs.pickT rfl rfl) ?_; rfl; rfl) | (refine QL.val ?_ ?_ (fun wq hC => Runs.pickF rfl rfl) ?_; rfl; rfl) | (refine QL.val ?_ ?_ (fun wq hC => Runs.len rfl sl22) ?_; rfl; rfl) | (refine QL.val ?_ ?_ (fun wq hC => Runs.len rfl sl23) ?_; rfl; rfl) | (refine QL.val ?_ ?_ (fun wq hC => Runs.len rfl sl27) ?_; rfl; rfl) | (refine QL.val ?_ ?_ (fun wq hC => Runs.len rfl sl28) ?_; rfl; rfl) | (refine QL.val ?_ ?_ (fun wq hC => Runs.len rfl sl39) ?_; rfl; rfl) | (refine QL.val ?_ ?_ (fun wq hC => Runs.len rfl sl64) ?_; rfl; rfl) | (refine QL.val ?_ ?_ (fun wq hC => Runs.len rfl sl68) ?_; rfl; rfl) | (refine QL.val ?_ ?_ (fun wq hC => Runs.len rfl sl86) ?_; rfl; rfl) | (refine QL.val ?_ ?_ (fun wq hC => Runs.len rfl sl113) ?_; rfl; rfl) | (refine QL.pass ?_ ?_ ?_; rfl; rfl))
        refine QL.nil fun wq hC => ?_
        repeat (first | refine AtExit.thenRet ?_ | refine AtExit.thenExit ?_ | refine AtExit.blockRet ?_ | refine AtExit.blockEnd ?_ | refine AtExit.blockExit ?_ | (refine AtExit.blockPast ?_ ?_; rfl))
        refine AtExit.go ?_
        refine WC.condT rfl ?_
        refine WC.region ?_
        repeat (first | (refine WL.val ?_ ?_ (Runs.move rfl) ?_; rfl; rfl) | (refine WL.val ?_ ?_ (Runs.assign rfl) ?_; rfl; rfl) | (refine WL.val ?_ ?_ (Runs.extract rfl rfl) ?_; rfl; rfl) | (refine WL.val ?_ ?_ (Runs.nilCheck rfl) ?_; rfl; rfl) | (refine WL.val ?_ ?_ (Runs.pickT rfl rfl) ?_; rfl; rfl) | (refine WL.val ?_ ?_ (Runs.pickF rfl rfl) ?_; rfl; rfl) | (refine WL.val ?_ ?_ (Runs.len rfl sl22) ?_; rfl; rfl) | (refine WL.val ?_ ?_ (Runs.len rfl sl23) ?_; rfl; rfl) | (refine WL.val ?_ ?_ (Runs.len rfl sl27) ?_; rfl; rfl) | (refine WL.val ?_ ?_ (Runs.len rfl sl28) ?_; rfl; rfl) | (refine WL.val ?_ ?_ (Runs.len rfl sl39) ?_; rfl; rfl) | (refine WL.val ?_ ?_ (Runs.len rfl sl64) ?_; rfl; rfl) | (refine WL.val ?_ ?_ (Runs.len rfl sl68) ?_; rfl; rfl) | (refine WL.val ?_ ?_ (Runs.len rfl sl86) ?_; rfl; rfl) | (refine WL.val ?_ ?_ (Runs.len rfl sl113) ?_; rfl; rfl) | (refine WL.pass ?_ ?_ ?_; rfl; rfl))
        refine WL.nil ?_
        repeat (first | refine AtExit.thenRet ?_ | refine AtExit.thenExit ?_ | refine AtExit.blockRet ?_ | refine AtExit.blockEnd ?_ | refine AtExit.blockExit ?_ | (refine AtExit.blockPast ?_ ?_; rfl))
        refine AtExit.inv fun av hv => ⟨some j, hv.sub (by repeat (first | exact Sub.nil _ | refine Sub.cons rfl ?_)), b13.trans (hC.mono b13.size), hB.first hej hm⟩
      | some b =>
        obtain ⟨eb, heb, hnb, hmin⟩ := hB
        have hB : BI E Es n j (some b) := ⟨eb, heb, hnb, hmin⟩
        have hbl : b < E.length := (List.getElem?_eq_some_iff.1 heb).1
        repeat (first | (refine QL.val ?_ ?_ (fun wq hC => Runs.move rfl) ?_; rfl; rfl) | (refine QL.val ?_ ?_ (fun wq hC => Runs.assign rfl) ?_; rfl; rfl) | (refine QL.val ?_ ?_ (fun wq hC => Runs.extract rfl rfl) ?_; rfl; rfl) | (refine QL.val ?_ ?_ (fun wq hC => Runs.nilCheck rfl) ?_; rfl; rfl) | (refine QL.val ?_ ?_ (fun wq hC => Runs.pickT rfl rfl) ?_; rfl; rfl) | (refine QL.val ?_ ?_ (fun wq hC => Runs.pickF rfl rfl) ?_; rfl; rfl) | (refine QL.val ?_ ?_ (fun wq hC => Runs.len rfl sl22) ?_; rfl; rfl) | (refine QL.val ?_ ?_ (fun wq hC => Runs.len rfl sl23) ?_; rfl; rfl) | (refine QL.val ?_ ?_ (fun wq hC => Runs.len rfl sl27) ?_; rfl; rfl) | (refine QL.val ?_ ?_ (fun wq hC => Runs.len rfl sl28) ?_; rfl; rfl) | (refine QL.val ?_ ?_ (fun wq hC => Runs.len rfl sl39) ?_; rfl; rfl) | (refine QL.val ?_ ?_ (fun wq hC => Runs.len rfl sl64) ?_; rfl; rfl) | (refine QL.val ?_ ?_ (fun wq hC => Runs.len rfl sl68) ?_; rfl; rfl) | (refine QL.val ?_ ?_ (fun wq hC => Runs.len rfl sl86) ?_; rfl; rfl) | (refine QL.val ?_ ?_ (fun wq hC => Runs.len rfl sl113) ?_; rfl; rfl) | (refine QL.pass ?_ ?_ ?_; rfl; rfl))
        refine QL.val rfl rfl (fun wq hC => Runs.lss rfl rfl (r := false) (dfalse (by show ¬ ((b : Nat) : Int) < 0; omega))) ?_
        repeat (first | (refine QL.val ?_ ?_ (fun wq hC => Runs.move rfl) ?_; rfl; rfl) | (refine QL.val ?_ ?_ (fun wq hC => Runs.assign rfl) ?_; rfl; rfl) | (refine QL.val ?_ ?_ (fun wq hC => Runs.extract rfl rfl) ?_; rfl; rfl) | (refine QL.val ?_ ?_ (fun wq hC => Runs.nilCheck rfl) ?_; rfl; rfl) | (refine QL.val ?_ ?_ (fun wq hC => Runs.pickT rfl rfl) ?_; rfl; rfl) | (refine QL.val ?_ ?_ (fun wq hC => Runs.pickF rfl rfl) ?_; rfl; rfl) | (refine QL.val ?_ ?_ (fun wq hC => Runs.len rfl sl22) ?_; rfl; rfl) | (refine QL.val ?_ ?_ (fun wq hC => Runs.len rfl sl23) ?_; rfl; rfl) | (refine QL.val ?_ ?_ (fun wq hC => Runs.len rfl sl27) ?_; rfl; rfl) | (refine QL.val ?_ ?_ (fun wq hC => Runs.len rfl sl28) ?_; rfl; rfl) | (refine QL.val ?_ ?_ (fun wq hC => Runs.len rfl sl39) ?_; rfl; rfl) | (refine QL.val ?_ ?_ (fun wq hC => Runs.len rfl sl64) ?_; rfl; rfl) | (refine QL.val ?_ ?_ (fun wq hC => Runs.len rfl sl68) ?_; rfl; rfl) | (refine QL.val ?_ ?_ (fun wq hC => Runs.len rfl sl86) ?_; rfl; rfl) | (refine QL.val ?_ ?_ (fun wq hC => Runs.len rfl sl113) ?_; rfl; rfl) | (refine QL.pass ?_ ?_ ?_; rfl; rfl))
        refine QL.val rfl rfl (fun wq hC => Runs.idx rfl rfl Yba.underlying39 sz61 rfl hjl) ?_
        refine QL.val rfl rfl (fun wq hC => Runs.fld rfl fl61_1) ?_
        refine QL.val rfl rfl (fun wq hC => Runs.load rfl na24 (v := .int .i64 ej.2.1) ((rq wq hC).cell entC_len hej rfl)) ?_
        repeat (first | (refine QL.val ?_ ?_ (fun wq hC => Runs.move rfl) ?_; rfl; rfl) | (refine QL.val ?_ ?_ (fun wq hC => Runs.assign rfl) ?_; rfl; rfl) | (refine QL.val ?_ ?_ (fun wq hC => Runs.extract rfl rfl) ?_; rfl; rfl) | (refine QL.val ?_ ?_ (fun wq hC => Runs.nilCheck rfl) ?_; rfl; rfl) | (refine QL.val ?_ ?_ (fun wq hC => Runs.pickT rfl rfl) ?_; rfl; rfl) | (refine QL.val ?_ ?_ (fun wq hC => Runs.pickF rfl rfl) ?_; rfl; rfl) | (refine QL.val ?_ ?_ (fun wq hC => Runs.len rfl sl22) ?_; rfl; rfl) | (refine QL.val ?_ ?_ (fun wq hC => Runs.len rfl sl23) ?_; rfl; rfl) | (refine QL.val ?_ ?_ (fun wq hC => Runs.len rfl sl27) ?_; rfl; rfl) | (refine QL.val ?_ ?_ (fun wq hC => Runs.len rfl sl28) ?_; rfl; rfl) | (refine QL.val ?_ ?_ (fun wq hC => Runs.len rfl sl39) ?_; rfl; rfl) | (refine QL.val ?_ ?_ (fun wq hC => Runs.len rfl sl64) ?_; rfl; rfl) | (refine QL.val ?_ ?_ (fun wq hC => Runs.len rfl sl68) ?_; rfl; rfl) | (refine QL.val ?_ ?_ (fun wq hC => Runs.len rfl sl86) ?_; rfl; rfl) | (refine QL.val ?_ ?_ (fun wq hC => Runs.len rfl sl113) ?_; rfl; rfl) | (refine QL.pass ?_ ?_ ?_; rfl; rfl))
        refine QL.val rfl rfl (fun wq hC => Runs.idx rfl rfl Yba.underlying39 sz61 (m := b) rfl hbl) ?_
        refine QL.val rfl rfl (fun wq hC => Runs.fld rfl fl61_1) ?_
        refine QL.val rfl rfl (fun wq hC => Runs.load rfl na24 (v := .int .i64 eb.2.1) ((rq wq hC).cell entC_len heb rfl)) ?_
        by_cases h1 : ej.2.1 < eb.2.1
        · refine QL.val rfl rfl (fun wq hC => Runs.lss rfl rfl (r := true) (dtrue h1)) ?_
          repeat (first | (refine QL.val ?_ ?_ (fun wq hC => Runs.move rfl) ?_; rfl; rfl) | (refine QL.val ?_ ?_ (fun wq hC => Runs.assign rfl) ?_; rfl; rfl) | (refine QL.val ?_ ?_ (fun wq hC => Runs.extract rfl rfl) ?_; rfl; rfl) | (refine QL.val ?_ ?_ (fun wq hC => Runs.nilCheck rfl) ?_; rfl; rfl) | (refine QL.val ?_ ?_ (fun wq hC => Runs.pickT rfl rfl) ?_; rfl; rfl) | (refine QL.val ?_ ?_ (fun wq hC => Runs.pickF rfl rfl) ?_; rfl; rfl) | (refine QL.val ?_ ?_ (fun wq hC => Runs.len rfl sl22) ?_; rfl; rfl) | (refine QL.val ?_ ?_ (fun wq hC => Runs.len rfl sl23) ?_; rfl; rfl) | (refine QL.val ?_ ?_ (fun wq hC => Runs.len rfl sl27) ?_; rfl; rfl) | (refine QL.val ?_ ?_ (fun wq hC => Runs.len rfl sl28) ?_; rfl; rfl) | (refine QL.val ?_ ?_ (fun wq hC => Runs.len rfl sl39) ?_; rfl; rfl) | (refine QL.val ?_ ?_ (fun wq hC => Runs.len rfl sl64) ?_; rfl; rfl) | (refine QL.val ?_ ?_ (fun wq hC => Runs.len rfl sl68) ?_; rfl; rfl) | (refine QL.val ?_ ?_ (fun wq hC => Runs.len rfl sl86) ?_; rfl; rfl) | (refine QL.val ?_ ?_ (fun wq hC => Runs.len rfl sl113) ?_; rfl; rfl) | (refine QL.pass ?_ ?_ ?_; rfl; rfl))
          refine QL.nil fun wq hC => ?_
          repeat (first | refine AtExit.thenRet ?_ | refine AtExit.thenExit ?_ | refine AtExit.blockRet ?_ | refine AtExit.blockEnd ?_ | refine AtExit.blockExit ?_ | (refine AtExit.blockPast ?_ ?_; rfl))
          refine AtExit.go ?_
          refine WC.condT rfl ?_
          refine WC.region ?_
          repeat (first | (refine WL.val ?_ ?_ (Runs.move rfl) ?_; rfl; rfl) | (refine WL.val ?_ ?_ (Runs.assign rfl) ?_; rfl; rfl) | (refine WL.val ?_ ?_ (Runs.extract rfl rfl) ?_; rfl; rfl) | (refine WL.val ?_ ?_ (Runs.nilCheck rfl) ?_; rfl; rfl) | (refine WL.val ?_ ?_ (Runs.pickT rfl rfl) ?_; rfl; rfl) | (refine WL.val ?_ ?_ (Runs.pickF rfl rfl) ?_; rfl; rfl) | (refine WL.val ?_ ?_ (Runs.len rfl sl22) ?_; rfl; rfl) | (refine WL.val ?_ ?_ (Runs.len rfl sl23) ?_; rfl; rfl) | (refine WL.val ?_ ?_ (Runs.len rfl sl27) ?_; rfl; rfl) | (refine WL.val ?_ ?_ (Runs.len rfl sl28) ?_; rfl; rfl) | (refine WL.val ?_ ?_ (Runs.len rfl sl39) ?_; rfl; rfl) | (refine WL.val ?_ ?_ (Runs.len rfl sl64) ?_; rfl; rfl) | (refine WL.val ?_ ?_ (Runs.len rfl sl68) ?_; rfl; rfl) | (refine WL.val ?_ ?_ (Runs.len rfl sl86) ?_; rfl; rfl) | (refine WL.val ?_ ?_ (Runs.len rfl sl113) ?_; rfl; rfl) | (refine WL.pass ?_ ?_ ?_; rfl; rfl))
          refine WL.nil ?_
          repeat (first | refine AtExit.thenRet ?_ | refine AtExit.thenExit ?_ | refine AtExit.blockRet ?_ | refine AtExit.blockEnd ?_ | refine AtExit.blockExit ?_ | (refine AtExit.blockPast ?_ ?_; rfl))
          refine AtExit.inv fun av hv => ⟨some j, hv.sub (by repeat (first | exact Sub.nil _ | refine Sub.cons rfl ?_)), b13.trans (hC.mono b13.size), hB.less heb hej hm (Or.inl h1)⟩
        refine QL.val rfl rfl (fun wq hC => Runs.lss rfl rfl (r := false) (dfalse h1)) ?_
        repeat (first | (refine QL.val ?_ ?_ (fun wq hC => Runs.move rfl) ?_; rfl; rfl) | (refine QL.val ?_ ?_ (fun wq hC => Runs.assign rfl) ?_; rfl; rfl) | (refine QL.val ?_ ?_ (fun wq hC => Runs.extract rfl rfl) ?_; rfl; rfl) | (refine QL.val ?_ ?_ (fun wq hC => Runs.nilCheck rfl) ?_; rfl; rfl) | (refine QL.val ?_ ?_ (fun wq hC => Runs.pickT rfl rfl) ?_; rfl; rfl) | (refine QL.val ?_ ?_ (fun wq hC => Runs.pickF rfl rfl) ?_; rfl; rfl) | (refine QL.val ?_ ?_ (fun wq hC => Runs.len rfl sl22) ?_; rfl; rfl) | (refine QL.val ?_ ?_ (fun wq hC => Runs.len rfl sl23) ?_; rfl; rfl) | (refine QL.val ?_ ?_ (fun wq hC => Runs.len rfl sl27) ?_; rfl; rfl) | (refine QL.val ?_ ?_ (fun wq hC => Runs.len rfl sl28) ?_; rfl; rfl) | (refine QL.val ?_ ?_ (fun wq hC => Runs.len rfl sl39) ?_; rfl; rfl) | (refine QL.val ?_ ?_ (fun wq hC => Runs.len rfl sl64) ?_; rfl; rfl) | (refine QL.val ?_ ?_ (fun wq hC => Runs.len rfl sl68) ?_; rfl; rfl) | (refine QL.val ?_ ?_ (fun wq hC => Runs.len rfl sl86) ?_; rfl; rfl) | (refine QL.val ?_ ?_ (fun wq hC => Runs.len rfl sl113) ?_; rfl; rfl) | (refine QL.pass ?_ ?_ ?_; rfl; rfl))
        refine QL.val rfl rfl (fun wq hC => Runs.idx rfl rfl Yba.underlying39 sz61 rfl hjl) ?_
        refine QL.val rfl rfl (fun wq hC => Runs.fld rfl fl61_1) ?_
        refine QL.val rfl rfl (fun wq hC => Runs.load rfl na24 (v := .int .i64 ej.2.1) ((rq wq hC).cell entC_len hej rfl)) ?_
        repeat (first | (refine QL.val ?_ ?_ (fun wq hC => Runs.move rfl) ?_; rfl; rfl) | (refine QL.val ?_ ?_ (fun wq hC => Runs.assign rfl) ?_; rfl; rfl) | (refine QL.val ?_ ?_ (fun wq hC => Runs.extract rfl rfl) ?_; rfl; rfl) | (refine QL.val ?_ ?_ (fun wq hC => Runs.nilCheck rfl) ?_; rfl; rfl) | (refine QL.val ?_ ?_ (fun wq hC => Runs.pickT rfl rfl) ?_; rfl; rfl) | (refine QL.val ?_ ?_ (fun wq hC => Runs.pickF rfl rfl) ?_; rfl; rfl) | (refine QL.val ?_ ?_ (fun wq hC => Runs.len rfl sl22) ?_; rfl; rfl) | (refine QL.val ?_ ?_ (fun wq hC => Runs.len rfl sl23) ?_; rfl; rfl) | (refine QL.val ?_ ?_ (fun wq hC => Runs.len rfl sl27) ?_; rfl; rfl) | (refine QL.val ?_ ?_ (fun wq hC => Runs.len rfl sl28) ?_; rfl; rfl) | (refine QL.val ?_ ?_ (fun wq hC => Runs.len rfl sl39) ?_; rfl; rfl) | (refine QL.val ?_ ?_ (fun wq hC => Runs.len rfl sl64) ?_; rfl; rfl) | (refine QL.val ?_ ?_ (fun wq hC => Runs.len rfl sl68) ?_; rfl; rfl) | (refine QL.val ?_ ?_ (fun wq hC => Runs.len rfl sl86) ?_; rfl; rfl) | (refine QL.val ?_ ?_ (fun wq hC => Runs.len rfl sl113) ?_; rfl; rfl) | (refine QL.pass ?_ ?_ ?_; rfl; rfl))
        refine QL.val rfl rfl (fun wq hC => Runs.idx rfl rfl Yba.underlying39 sz61 (m := b) rfl hbl) ?_
        refine QL.val rfl rfl (fun wq hC => Runs.fld rfl fl61_1) ?_
        refine QL.val rfl rfl (fun wq hC => Runs.load rfl na24 (v := .int .i64 eb.2.1) ((rq wq hC).cell entC_len heb rfl)) ?_
        by_cases h2 : ej.2.1 = eb.2.1
        · refine QL.val rfl rfl (fun wq hC => Runs.eql rfl rfl (r := true) (dtrue h2)) ?_
          repeat (first | (refine QL.val ?_ ?_ (fun wq hC => Runs.move rfl) ?_; rfl; rfl) | (refine QL.val ?_ ?_ (fun wq hC => Runs.assign rfl) ?_; rfl; rfl) | (refine QL.val ?_ ?_ (fun wq hC => Runs.extract rfl rfl) ?_; rfl; rfl) | (refine QL.val ?_ ?_ (fun wq hC => Runs.nilCheck rfl) ?_; rfl; rfl) | (refine QL.val ?_ ?_ (fun wq hC => Runs.pickT rfl rfl) ?_; rfl; rfl) | (refine QL.val ?_ ?_ (fun wq hC => Runs.pickF rfl rfl) ?_; rfl; rfl) | (refine QL.val ?_ ?_ (fun wq hC => Runs.len rfl sl22) ?_; rfl; rfl) | (refine QL.val ?_ ?_ (fun wq hC => Runs.len rfl sl23) ?_; rfl; rfl) | (refine QL.val ?_ ?_ (fun wq hC => Runs.len rfl sl27) ?_; rfl; rfl) | (refine QL.val ?_ ?_ (fun wq hC => Runs.len rfl sl28) ?_; rfl; rfl) | (refine QL.val ?_ ?_ (fun wq hC => Runs.len rfl sl39) ?_; rfl; rfl) | (refine QL.val ?_ ?_ (fun wq hC => Runs.len rfl sl64) ?_; rfl; rfl) | (refine QL.val ?_ ?_ (fun wq hC => Runs.len rfl sl68) ?_; rfl; rfl) | (refine QL.val ?_ ?_ (fun wq hC => Runs.len rfl sl86) ?_; rfl; rfl) | (refine QL.val ?_ ?_ (fun wq hC => Runs.len rfl sl113) ?_; rfl; rfl) | (refine QL.pass ?_ ?_ ?_; rfl; rfl))
          refine QL.val rfl rfl (fun wq hC => Runs.idx rfl rfl Yba.underlying39 sz61 rfl hjl) ?_
          refine QL.val rfl rfl (fun wq hC => Runs.fld rfl fl61_2) ?_
          refine QL.val rfl rfl (fun wq hC => Runs.load rfl na3 (v := .int .i64 (ej.2.2 : Int)) ((rq wq hC).cell entC_len hej rfl)) ?_
          repeat (first | (refine QL.val ?_ ?_ (fun wq hC => Runs.move rfl) ?_; rfl; rfl) | (refine QL.val ?_ ?_ (fun wq hC => Runs.assign rfl) ?_; rfl; rfl) | (refine QL.val ?_ ?_ (fun wq hC => Runs.extract rfl rfl) ?_; rfl; rfl) | (refine QL.val ?_ ?_ (fun wq hC => Runs.nilCheck rfl) ?_; rfl; rfl) | (refine QL.val ?_ ?_ (fun wq hC => Runs.pickT rfl rfl) ?_; rfl; rfl) | (refine QL.val ?_ ?_ (fun wq hC => Runs.pickF rfl rfl) ?_; rfl; rfl) | (refine QL.val ?_ ?_ (fun wq hC => Runs.len rfl sl22) ?_; rfl; rfl) | (refine QL.val ?_ ?_ (fun wq hC => Runs.len rfl sl23) ?_; rfl; rfl) | (refine QL.val ?_ ?_ (fun wq hC => Runs.len rfl sl27) ?_; rfl; rfl) | (refine QL.val ?_ ?_ (fun wq hC => Runs.len rfl sl28) ?_; rfl; rfl) | (refine QL.val ?_ ?_ (fun wq hC => Runs.len rfl sl39) ?_; rfl; rfl) | (refine QL.val ?_ ?_ (fun wq hC => Runs.len rfl sl64) ?_; rfl; rfl) | (refine QL.val ?_ ?_ (fun wq hC => Runs.len rfl sl68) ?_; rfl; rfl) | (refine QL.val ?_ ?_ (fun wq hC => Runs.len rfl sl86) ?_; rfl; rfl) | (refine QL.val ?_ ?_ (fun wq hC => Runs.len rfl sl113) ?_; rfl; rfl) | (refine QL.pass ?_ ?_ ?_; rfl; rfl))
          refine QL.val rfl rfl (fun wq hC => Runs.idx rfl rfl Yba.underlying39 sz61 (m := b) rfl hbl) ?_
          refine QL.val rfl rfl (fun wq hC => Runs.fld rfl fl61_2) ?_
          refine QL.val rfl rfl (fun wq hC => Runs.load rfl na3 (v := .int .i64 (eb.2.2 : Int)) ((rq wq hC).cell entC_len heb rfl)) ?_
          by_cases h3 : ej.2.2 < eb.2.2
          · refine QL.val rfl rfl (fun wq hC => Runs.lss rfl rfl (declt h3)) ?_
            repeat (first | (refine QL.val ?_ ?_ (fun wq hC => Runs.move rfl) ?_; rfl; rfl) | (refine QL.val ?_ ?_ (fun wq hC => Runs.assign rfl) ?_; rfl; rfl) | (refine QL.val ?_ ?_ (fun wq hC => Runs.extract rfl rfl) ?_; rfl; rfl) | (refine QL.val ?_ ?_ (fun wq hC => Runs.nilCheck rfl) ?_; rfl; rfl) | (refine QL.val ?_ ?_ (fun wq hC => Runs.pickT rfl rfl) ?_; rfl; rfl) | (refine QL.val ?_ ?_ (fun wq hC => Runs.pickF rfl rfl) ?_; rfl; rfl) | (refine QL.val ?_ ?_ (fun wq hC => Runs.len rfl sl22) ?_; rfl; rfl) | (refine QL.val ?_ ?_ (fun wq hC => Runs.len rfl sl23) ?_; rfl; rfl) | (refine QL.val ?_ ?_ (fun wq hC => Runs.len rfl sl27) ?_; rfl; rfl) | (refine QL.val ?_ ?_ (fun wq hC => Runs.len rfl sl28) ?_; rfl; rfl) | (refine QL.val ?_ ?_ (fun wq hC => Runs.len rfl sl39) ?_; rfl; rfl) | (refine QL.val ?_ ?_ (fun wq hC => Runs.len rfl sl64) ?_; rfl; rfl) | (refine QL.val ?_ ?_ (fun wq hC => Runs.len rfl sl68) ?_; rfl; rfl) | (refine QL.val ?_ ?_ (fun wq hC => Runs.len rfl sl86) ?_; rfl; rfl) | (refine QL.val ?_ ?_ (fun wq hC => Runs.len rfl sl113) ?_; rfl; rfl) | (refine QL.pass ?_ ?_ ?_; rfl; rfl))
            refine QL.nil fun wq hC => ?_
            repeat (first | refine AtExit.thenRet ?_ | refine AtExit.thenExit ?_ | refine AtExit.blockRet ?_ | refine AtExit.blockEnd ?_ | refine AtExit.blockExit ?_ | (refine AtExit.blockPast ?_ ?_; rfl))
            refine AtExit.go ?_
            refine WC.condT rfl ?_
            refine WC.region ?_
            repeat (first | (refine WL.val ?_ ?_ (Runs.move rfl) ?_; rfl; rfl) | (refine WL.val ?_ ?_ (Runs.assign rfl) ?_; rfl; rfl) | (refine WL.val ?_ ?_ (Runs.extract rfl rfl) ?_; rfl; rfl) | (refine WL.val ?_ ?_ (Runs.nilCheck rfl) ?_; rfl; rfl) | (refine WL.val ?_ ?_ (Runs.pickT rfl rfl) ?_; rfl; rfl) | (refine WL.val ?_ ?_ (Runs.pickF rfl rfl) ?_; rfl; rfl) | (refine WL.val ?_ ?_ (Runs.len rfl sl22) ?_; rfl; rfl) | (refine WL.val ?_ ?_ (Runs.len rfl sl23) ?_; rfl; rfl) | (refine WL.val ?_ ?_ (Runs.len rfl sl27) ?_; rfl; rfl) | (refine WL.val ?_ ?_ (Runs.len rfl sl28) ?_; rfl; rfl) | (refine WL.val ?_ ?_ (Runs.len rfl sl39) ?_; rfl; rfl) | (refine WL.val ?_ ?_ (Runs.len rfl sl64) ?_; rfl; rfl) | (refine WL.val ?_ ?_ (Runs.len rfl sl68) ?_; rfl; rfl) | (refine WL.val ?_ ?_ (Runs.len rfl sl86) ?_; rfl; rfl) | (refine WL.val ?_ ?_ (Runs.len rfl sl113) ?_; rfl; rfl) | (refine WL.pass ?_ ?_ ?_; rfl; rfl))
            refine WL.nil ?_
            repeat (first | refine AtExit.thenRet ?_ | refine AtExit.thenExit ?_ | refine AtExit.blockRet ?_ | refine AtExit.blockEnd ?_ | refine AtExit.blockExit ?_ | (refine AtExit.blockPast ?_ ?_; rfl))
            refine AtExit.inv fun av hv => ⟨some j, hv.sub (by repeat (first | exact Sub.nil _ | refine Sub.cons rfl ?_)), b13.trans (hC.mono b13.size), hB.less heb hej hm (Or.inr ⟨h2, h3⟩)⟩
          · refine QL.val rfl rfl (fun wq hC => Runs.lss rfl rfl (decge h3)) ?_
            repeat (first | (refine QL.val ?_ ?_ (fun wq hC => Runs.move rfl) ?_; rfl; rfl) | (refine QL.val ?_ ?_ (fun wq hC => Runs.assign rfl) ?_; rfl; rfl) | (refine QL.val ?_ ?_ (fun wq hC => Runs.extract rfl rfl) ?_; rfl; rfl) | (refine QL.val ?_ ?_ (fun wq hC => Runs.nilCheck rfl) ?_; rfl; rfl) | (refine QL.val ?_ ?_ (fun wq hC => Runs.pickT rfl rfl) ?_; rfl; rfl) | (refine QL.val ?_ ?_ (fun wq hC => Runs.pickF rfl rfl) ?_; rfl; rfl) | (refine QL.val ?_ ?_ (fun wq hC => Runs.len rfl sl22) ?_; rfl; rfl) | (refine QL.val ?_ ?_ (fun wq hC => Runs.len rfl sl23) ?_; rfl; rfl) | (refine QL.val ?_ ?_ (fun wq hC => Runs.len rfl sl27) ?_; rfl; rfl) | (refine QL.val ?_ ?_ (fun wq hC => Runs.len rfl sl28) ?_; rfl; rfl) | (refine QL.val ?_ ?_ (fun wq hC => Runs.len rfl sl39) ?_; rfl; rfl) | (refine QL.val ?_ ?_ (fun wq hC => Runs.len rfl sl64) ?_; rfl; rfl) | (refine QL.val ?_ ?_ (fun wq hC => Runs.len rfl sl68) ?_; rfl; rfl) | (refine QL.val ?_ ?_ (fun wq hC => Runs.len rfl sl86) ?_; rfl; rfl) | (refine QL.val ?_ ?_ (fun wq hC => Runs.len rfl sl113) ?_; rfl; rfl) | (refine QL.pass ?_ ?_ ?_; rfl; rfl))
            refine QL.nil fun wq hC => ?_
            repeat (first | refine AtExit.thenRet ?_ | refine AtExit.thenExit ?_ | refine AtExit.blockRet ?_ | refine AtExit.blockEnd ?_ | refine AtExit.blockExit ?_ | (refine AtExit.blockPast ?_ ?_; rfl))
            refine AtExit.go ?_
            refine WC.condF rfl ?_
            refine WC.skip ?_
            repeat (first | refine AtExit.thenRet ?_ | refine AtExit.thenExit ?_ | refine AtExit.blockRet ?_ | refine AtExit.blockEnd ?_ | refine AtExit.blockExit ?_ | (refine AtExit.blockPast ?_ ?_; rfl))
            refine AtExit.inv fun av hv => ⟨some b, hv.sub (by repeat (first | exact Sub.nil _ | refine Sub.cons rfl ?_)), b13.trans (hC.mono b13.size), hB.notless heb hej (fun h => by unfold elt at h; omega)⟩
        · refine QL.val rfl rfl (fun wq hC => Runs.eql rfl rfl (r := false) (dfalse h2)) ?_
          repeat (first | (refine QL.val ?_ ?_ (fun wq hC => Runs.move rfl) ?_; rfl; rfl) | (refine QL.val ?_ ?_ (fun wq hC => Runs.assign rfl) ?_; rfl; rfl) | (refine QL.val ?_ ?_ (fun wq hC => Runs.extract rfl rfl) ?_; rfl; rfl) | (refine QL.val ?_ ?_ (fun wq hC => Runs.nilCheck rfl) ?_; rfl; rfl) | (refine QL.val ?_ ?_ (fun wq hC => Runs.pickT rfl rfl) ?_; rfl; rfl) | (refine QL.val ?_ ?_ (fun wq hC => Runs.pickF rfl rfl) ?_; rfl; rfl) | (refine QL.val ?_ ?_ (fun wq hC => Runs.len rfl sl22) ?_; rfl; rfl) | (refine QL.val ?_ ?_ (fun wq hC => Runs.len rfl sl23) ?_; rfl; rfl) | (refine QL.val ?_ ?_ (fun wq hC => Runs.len rfl sl27) ?_; rfl; rfl) | (refine QL.val ?_ ?_ (fun wq hC => Runs.len rfl sl28) ?_; rfl; rfl) | (refine QL.val ?_ ?_ (fun wq hC => Runs.len rfl sl39) ?_; rfl; rfl) | (refine QL.val ?_ ?_ (fun wq hC => Runs.len rfl sl64) ?_; rfl; rfl) | (refine QL.val ?_ ?_ (fun wq hC => Runs.len rfl sl68) ?_; rfl; rfl) | (refine QL.val ?_ ?_ (fun wq hC => Runs.len rfl sl86) ?_; rfl; rfl) | (refine QL.val ?_ ?_ (fun wq hC => Runs.len rfl sl113) ?_; rfl; rfl) | (refine QL.pass ?_ ?_ ?_; rfl; rfl))
          refine QL.nil fun wq hC => ?_
          repeat (first | refine AtExit.thenRet ?_ | refine AtExit.thenExit ?_ | refine AtExit.blockRet ?_ | refine AtExit.blockEnd ?_ | refine AtExit.blockExit ?_ | (refine AtExit.blockPast ?_ ?_; rfl))
          refine AtExit.go ?_
          refine WC.condF rfl ?_
          refine WC.skip ?_
          repeat (first | refine AtExit.thenRet ?_ | refine AtExit.thenExit ?_ | refine AtExit.blockRet ?_ | refine AtExit.blockEnd ?_ | refine AtExit.blockExit ?_ | (refine AtExit.blockPast ?_ ?_; rfl))
          refine AtExit.inv fun av hv => ⟨some b, hv.sub (by repeat (first | exact Sub.nil _ | refine Sub.cons rfl ?_)), b13.trans (hC.mono b13.size), hB.notless heb hej (fun h => by unfold elt at h; omega)⟩
    rintro b w13 ⟨b13, eb, heb, hsn⟩
    have hbl : b < E.length := (List.getElem?_eq_some_iff.1 heb).1
    have hul : b < u.length := by rw [f12.1]; exact hbl
    have r13 := r12.below b13
    have o13 := o12.below b13
    refine WC.seq (WC.region ?_)
    repeat (first | (refine WL.val ?_ ?_ (Runs.move rfl) ?_; rfl; rfl) | (refine WL.val ?_ ?_ (Runs.assign rfl) ?_; rfl; rfl) | (refine WL.val ?_ ?_ (Runs.extract rfl rfl) ?_; rfl; rfl) | (refine WL.val ?_ ?_ (Runs.nilCheck rfl) ?_; rfl; rfl) | (refine WL.val ?_ ?_ (Runs.pickT rfl rfl) ?_; rfl; rfl) | (refine WL.val ?_ ?_ (Runs.pickF rfl rfl) ?_; rfl; rfl) | (refine WL.val ?_ ?_ (Runs.len rfl sl22) ?_; rfl; rfl) | (refine WL.val ?_ ?_ (Runs.len rfl sl23) ?_; rfl; rfl) | (refine WL.val ?_ ?_ (Runs.len rfl sl27) ?_; rfl; rfl) | (refine WL.val ?_ ?_ (Runs.len rfl sl28) ?_; rfl; rfl) | (refine WL.val ?_ ?_ (Runs.len rfl sl39) ?_; rfl; rfl) | (refine WL.val ?_ ?_ (Runs.len rfl sl64) ?_; rfl; rfl) | (refine WL.val ?_ ?_ (Runs.len rfl sl68) ?_; rfl; rfl) | (refine WL.val ?_ ?_ (Runs.len rfl sl86) ?_; rfl; rfl) | (refine WL.val ?_ ?_ (Runs.len rfl sl113) ?_; rfl; rfl) | (refine WL.pass ?_ ?_ ?_; rfl; rfl))
    refine WL.val rfl rfl (Runs.idx rfl rfl Yba.underlying68 sz4 rfl hbl) ?_
    refine WL.skip rfl (RunsS.store rfl rfl rfl sz4 (u := .bool u[b]) (r13.cell bC_len (List.getElem?_eq_getElem hul) (j := 0) rfl) (r13.frozen _)) ?_
    refine WL.nil ?_
    repeat (first | refine AtExit.thenRet ?_ | refine AtExit.thenExit ?_ | refine AtExit.blockRet ?_ | refine AtExit.blockEnd ?_ | refine AtExit.blockExit ?_ | (refine AtExit.blockPast ?_ ?_; rfl))
    refine AtExit.go ?_
    have r14 := r13.put bC_len hul true
    have g14 : Chg w13 (w13.setCells gu (0 + b * 1) (bC true)) (fun k => k = gu) := chg_setCells (m := fun k => k = gu) gu rfl _ _ _
    change WC _ _ _ _ _ (w13.setCells gu (0 + b * 1) (bC true))
    have o14 := o13.chg g14 (fun k hk => by
      subst hk
      obtain ⟨s, hs⟩ := r13
      exact ⟨_, hs, rfl⟩)
    have bb13 := b12.trans (b13.mono b12.size)
    have bb14 := bb13.trans (g14.below (fun k hk e => by omega) bb13.size)
    generalize w13.setCells gu (0 + b * 1) (bC true) = w14 at r14 g14 o14 bb14 ⊢
    have f14 := f12.put hnd heb hsn
    have hbd : Below w14.heap.size w14 w14.drew := below_drawn _ _ _
    have r15 := r14.below hbd
    have o15 := o14.below hbd
    have bb15 := bb14.trans (hbd.mono bb14.size)
    refine WC.held (fun wq => Below w9.heap.size w9 wq) mixed rfl ?_
    generalize w14.drew = w15 at r15 o15 bb15 ⊢
    refine HL.take 0 rfl (by kernel_rfl) (by kernel_rfl) (by kernel_rfl) (fun _ _ _ h => h) rfl rfl (fun wq hC => Runs.move rfl) (by assumption) ?_
    refine HL.take 1 rfl (by kernel_rfl) (by kernel_rfl) (by kernel_rfl) (fun _ _ _ h => h) rfl rfl (fun wq hC => Runs.move rfl) (by assumption) ?_
    refine HL.take 2 rfl (by kernel_rfl) (by kernel_rfl) (by kernel_rfl) (fun _ _ _ h => h) rfl rfl (fun wq hC => Runs.move rfl) (by assumption) ?_
    refine HL.take 3 rfl (by kernel_rfl) (by kernel_rfl) (by kernel_rfl) (fun _ _ _ h => h) rfl rfl (fun wq hC => Runs.idx rfl rfl Yba.underlying39 sz61 (m := b) rfl hbl) (by assumption) ?_
    refine HL.take 4 rfl (by kernel_rfl) (by kernel_rfl) (by kernel_rfl) (fun _ _ _ h => h) rfl rfl (fun wq hC => Runs.fld rfl fl61_0) (by assumption) ?_
    refine HL.take 5 rfl (by kernel_rfl) (by kernel_rfl) (by kernel_rfl) (fun _ _ _ h => h) rfl rfl (fun wq hC => Runs.loadAgg (cs := kc eb.1) rfl na48 sz48 (fun j v hv => (rE.below hC).cell entC_len heb ((List.getElem?_append_left (List.getElem?_eq_some_iff.1 hv).1).trans hv))) (by assumption) ?_
    refine HL.take 6 rfl (by kernel_rfl) (by kernel_rfl) (by kernel_rfl) (fun _ _ _ h => h) rfl rfl (fun wq hC => Runs.move rfl) (by assumption) ?_
    refine HL.take 7 rfl (by kernel_rfl) (by kernel_rfl) (by kernel_rfl) (fun _ _ _ h => h) rfl rfl (fun wq hC => Runs.move rfl) (by assumption) ?_
    refine HL.take 8 rfl (by kernel_rfl) (by kernel_rfl) (by kernel_rfl) (fun _ _ _ h => h) rfl rfl (fun wq hC => Runs.idx rfl rfl Yba.underlying39 sz61 (m := b) rfl hbl) (by assumption) ?_
    refine HL.take 9 rfl (by kernel_rfl) (by kernel_rfl) (by kernel_rfl) (fun _ _ _ h => h) rfl rfl (fun wq hC => Runs.fld rfl fl61_1) (by assumption) ?_
    refine HL.take 10 rfl (by kernel_rfl) (by kernel_rfl) (by kernel_rfl) (fun _ _ _ h => h) rfl rfl (fun wq hC => Runs.load rfl na24 (v := .int .i64 eb.2.1) ((rE.below hC).cell entC_len heb rfl)) (by assumption) ?_
    refine HL.take 11 rfl (by kernel_rfl) (by kernel_rfl) (by kernel_rfl) (fun _ _ _ h => h) rfl rfl (fun wq hC => Runs.build rfl (built70 eb.1 eb.2.1)) (by assumption) ?_
    obtain ⟨vw16, w16, q16, o16, g16, _, _⟩ := OwnA.add (T := 64) keptC_len keptC_one Yba.underlying64 in70 rfl (by omega) (by omega) o15 bb15.size (by rw [List.length_map, List.length_take]; omega) (ek eb)
    have ba := below_new w15 (.cells (keptC (ek eb)).toArray 70) (Nat.le_refl _)
    have bb16 : Below w9.heap.size w9 w16 := bb15.trans (g16.below (fun k hk hm => by have := (o15.tag hm).1; omega) bb15.size)
    have r16 : RwA bC 4 w16 gu (u.set b true) := by
      obtain ⟨s, hs⟩ := r15
      exact ⟨s, g16.obj hs (fun k hk => by
        obtain ⟨_, c, hx⟩ := o15.tag hk
        exact ⟨_, hx, rfl⟩)⟩
    refine HL.all1 (i := 12) (by kernel_rfl) ?_
    refine HO.val rfl rfl rfl (Runs.sliceK rfl Yba.underlying64 in70 (by omega) (by omega) (by kernel_rfl)) (bb15.trans (ba.mono bb15.size)) ?_
    refine HL.all1 (i := 13) (by kernel_rfl) ?_
    refine HO.val rfl rfl rfl (Runs.append rfl q16) bb16 ?_
    refine HL.all1 (i := 14) (by kernel_rfl) ?_
    refine HO.val rfl rfl rfl (Runs.assign rfl) bb16 ?_
    refine HL.done (by kernel_rfl) ?_
    repeat (first | refine AtExit.thenRet ?_ | refine AtExit.thenExit ?_ | refine AtExit.blockRet ?_ | refine AtExit.blockEnd ?_ | refine AtExit.blockExit ?_ | (refine AtExit.blockPast ?_ ?_; rfl))
    refine AtExit.go ?_
    refine WC.region ?_
    repeat (first | (refine WL.val ?_ ?_ (Runs.move rfl) ?_; rfl; rfl) | (refine WL.val ?_ ?_ (Runs.assign rfl) ?_; rfl; rfl) | (refine WL.val ?_ ?_ (Runs.extract rfl rfl) ?_; rfl; rfl) | (refine WL.val ?_ ?_ (Runs.nilCheck rfl) ?_; rfl; rfl) | (refine WL.val ?_ ?_ (Runs.pickT rfl rfl) ?_; rfl; rfl) | (refine WL.val ?_ ?_ (Runs.pickF rfl rfl) ?_; rfl; rfl) | (refine WL.val ?_ ?_ (Runs.len rfl sl22) ?_; rfl; rfl) | (refine WL.val ?_ ?_ (Runs.len rfl sl23) ?_; rfl; rfl) | (refine WL.val ?_ ?_ (Runs.len rfl sl27) ?_; rfl; rfl) | (refine WL.val ?_ ?_ (Runs.len rfl sl28) ?_; rfl; rfl) | (refine WL.val ?_ ?_ (Runs.len rfl sl39) ?_; rfl; rfl) | (refine WL.val ?_ ?_ (Runs.len rfl sl64) ?_; rfl; rfl) | (refine WL.val ?_ ?_ (Runs.len rfl sl68) ?_; rfl; rfl) | (refine WL.val ?_ ?_ (Runs.len rfl sl86) ?_; rfl; rfl) | (refine WL.val ?_ ?_ (Runs.len rfl sl113) ?_; rfl; rfl) | (refine WL.pass ?_ ?_ ?_; rfl; rfl))
    refine WL.val rfl rfl (Runs.add rfl rfl (r := ((n + 1 : Nat) : Int)) (wI (by omega) (by omega) (by omega))) ?_
    repeat (first | (refine WL.val ?_ ?_ (Runs.move rfl) ?_; rfl; rfl) | (refine WL.val ?_ ?_ (Runs.assign rfl) ?_; rfl; rfl) | (refine WL.val ?_ ?_ (Runs.extract rfl rfl) ?_; rfl; rfl) | (refine WL.val ?_ ?_ (Runs.nilCheck rfl) ?_; rfl; rfl) | (refine WL.val ?_ ?_ (Runs.pickT rfl rfl) ?_; rfl; rfl) | (refine WL.val ?_ ?_ (Runs.pickF rfl rfl) ?_; rfl; rfl) | (refine WL.val ?_ ?_ (Runs.len rfl sl22) ?_; rfl; rfl) | (refine WL.val ?_ ?_ (Runs.len rfl sl23) ?_; rfl; rfl) | (refine WL.val ?_ ?_ (Runs.len rfl sl27) ?_; rfl; rfl) | (refine WL.val ?_ ?_ (Runs.len rfl sl28) ?_; rfl; rfl) | (refine WL.val ?_ ?_ (Runs.len rfl sl39) ?_; rfl; rfl) | (refine WL.val ?_ ?_ (Runs.len rfl sl64) ?_; rfl; rfl) | (refine WL.val ?_ ?_ (Runs.len rfl sl68) ?_; rfl; rfl) | (refine WL.val ?_ ?_ (Runs.len rfl sl86) ?_; rfl; rfl) | (refine WL.val ?_ ?_ (Runs.len rfl sl113) ?_; rfl; rfl) | (refine WL.pass ?_ ?_ ?_; rfl; rfl))
    refine WL.nil ?_
    repeat (first | refine AtExit.thenRet ?_ | refine AtExit.thenExit ?_ | refine AtExit.blockRet ?_ | refine AtExit.blockEnd ?_ | refine AtExit.blockExit ?_ | (refine AtExit.blockPast ?_ ?_; rfl))
    refine AtExit.inv fun av hv => ⟨(n + 1, u.set b true, vw16), hv.sub (by repeat (first | exact Sub.nil _ | refine Sub.cons rfl ?_)), ⟨by omega, bb16, r16, f14, ?_⟩, by show E.length - (n + 1) < E.length - n; omega⟩
    rw [List.take_add_one, hsn, List.map_append]
    exact o16
  clear bb11 r11 o11
  rintro vw w12 ⟨b12, o12⟩
  have P12 := P9.below b12
  have x12 := below_heap b12 (lt_of_heap x9) x9
  clear P9 x9
  obtain ⟨pw, cw, rfl⟩ := o12.shape
  obtain ⟨pg, cg, rfl⟩ := P12.got.shape
  have hkx : ∀ (i : Nat) (e : Nat × Int), (Es.map ek)[i]? = some e → e.1 < 9 := fun i e he => by
    obtain ⟨e', he', rfl⟩ := List.mem_map.1 (List.mem_of_getElem? he)
    exact hEx e' (pE.mem_iff.1 he')
  have hKl : (Es.map ek).length ≤ 4096 := by rw [List.length_map, pE.length_eq]; omega
  generalize Es.map ek = K at P12 o12 hkx hKl x12 ⊢
  refine WC.cut (α := Unit) (fun _ => [(7, .int .i64 now), (8, pv C), (9, pv cnt), (11, pv U), (15, .slice pf F.length cf), (25, .int .i64 (calls : Int)), (26, .int .u64 (st : Int))]) (fun _ w' => Below w12.heap.size w12 w') ?_ ?_
  · refine WC.seq (WC.region ?_)
    repeat (first | (refine WL.val ?_ ?_ (Runs.move rfl) ?_; rfl; rfl) | (refine WL.val ?_ ?_ (Runs.assign rfl) ?_; rfl; rfl) | (refine WL.val ?_ ?_ (Runs.extract rfl rfl) ?_; rfl; rfl) | (refine WL.val ?_ ?_ (Runs.nilCheck rfl) ?_; rfl; rfl) | (refine WL.val ?_ ?_ (Runs.pickT rfl rfl) ?_; rfl; rfl) | (refine WL.val ?_ ?_ (Runs.pickF rfl rfl) ?_; rfl; rfl) | (refine WL.val ?_ ?_ (Runs.len rfl sl22) ?_; rfl; rfl) | (refine WL.val ?_ ?_ (Runs.len rfl sl23) ?_; rfl; rfl) | (refine WL.val ?_ ?_ (Runs.len rfl sl27) ?_; rfl; rfl) | (refine WL.val ?_ ?_ (Runs.len rfl sl28) ?_; rfl; rfl) | (refine WL.val ?_ ?_ (Runs.len rfl sl39) ?_; rfl; rfl) | (refine WL.val ?_ ?_ (Runs.len rfl sl64) ?_; rfl; rfl) | (refine WL.val ?_ ?_ (Runs.len rfl sl68) ?_; rfl; rfl) | (refine WL.val ?_ ?_ (Runs.len rfl sl86) ?_; rfl; rfl) | (refine WL.val ?_ ?_ (Runs.len rfl sl113) ?_; rfl; rfl) | (refine WL.pass ?_ ?_ ?_; rfl; rfl))
    by_cases h0 : K.length = 0
    · refine WL.val rfl rfl (Runs.eql rfl rfl (r := true) (dtrue (by omega))) ?_
      refine WL.nil ?_
      repeat (first | refine AtExit.thenRet ?_ | refine AtExit.thenExit ?_ | refine AtExit.blockRet ?_ | refine AtExit.blockEnd ?_ | refine AtExit.blockExit ?_ | (refine AtExit.blockPast ?_ ?_; rfl))
      refine AtExit.go ?_
      refine WC.condT rfl ?_
      have hnil := P12.nil (List.length_eq_zero_iff.1 h0)
      refine WC.seq (WC.region ?_)
      refine WL.val rfl rfl (Runs.fld rfl fl66_0) ?_
      refine WL.val rfl rfl (Runs.load rfl na64 (v := .slice pg K.length cg) (by rw [cell_of x12]; rfl)) ?_
      refine WL.val rfl rfl (Runs.neqSN rfl Yba.underlying64 (r := false) (by injection hnil with h1 _ _; rw [h1]; rfl)) ?_
      refine WL.nil ?_
      repeat (first | refine AtExit.thenRet ?_ | refine AtExit.thenExit ?_ | refine AtExit.blockRet ?_ | refine AtExit.blockEnd ?_ | refine AtExit.blockExit ?_ | (refine AtExit.blockPast ?_ ?_; rfl))
      refine AtExit.go ?_
      refine WC.condF rfl ?_
      refine WC.skip ?_
      repeat (first | refine AtExit.thenRet ?_ | refine AtExit.thenExit ?_ | refine AtExit.blockRet ?_ | refine AtExit.blockEnd ?_ | refine AtExit.blockExit ?_ | (refine AtExit.blockPast ?_ ?_; rfl))
      refine AtExit.inv fun av hv => ⟨(), hv.sub (by repeat (first | exact Sub.nil _ | refine Sub.cons rfl ?_)), Below.refl _ _⟩
    · refine WL.val rfl rfl (Runs.eql rfl rfl (r := false) (dfalse (by omega))) ?_
      refine WL.nil ?_
      repeat (first | refine AtExit.thenRet ?_ | refine AtExit.thenExit ?_ | refine AtExit.blockRet ?_ | refine AtExit.blockEnd ?_ | refine AtExit.blockExit ?_ | (refine AtExit.blockPast ?_ ?_; rfl))
      refine AtExit.go ?_
      refine WC.condF rfl ?_
      obtain ⟨gg, cg', eg, _, rg⟩ := P12.got.row (by omega)
      obtain ⟨gw, cw', ew, _, rw12⟩ := o12.row (by omega)
      cases eg
      cases ew
      refine WC.seq ?_
      refine WC.seq (WC.region ?_)
      refine WL.val rfl rfl (Runs.fld rfl fl66_0) ?_
      refine WL.val rfl rfl (Runs.load rfl na64 (v := .slice (some ⟨gg, 0, none⟩) K.length cg) (by rw [cell_of x12]; rfl)) ?_
      repeat (first | (refine WL.val ?_ ?_ (Runs.move rfl) ?_; rfl; rfl) | (refine WL.val ?_ ?_ (Runs.assign rfl) ?_; rfl; rfl) | (refine WL.val ?_ ?_ (Runs.extract rfl rfl) ?_; rfl; rfl) | (refine WL.val ?_ ?_ (Runs.nilCheck rfl) ?_; rfl; rfl) | (refine WL.val ?_ ?_ (Runs.pickT rfl rfl) ?_; rfl; rfl) | (refine WL.val ?_ ?_ (Runs.pickF rfl rfl) ?_; rfl; rfl) | (refine WL.val ?_ ?_ (Runs.len rfl sl22) ?_; rfl; rfl) | (refine WL.val ?_ ?_ (Runs.len rfl sl23) ?_; rfl; rfl) | (refine WL.val ?_ ?_ (Runs.len rfl sl27) ?_; rfl; rfl) | (refine WL.val ?_ ?_ (Runs.len rfl sl28) ?_; rfl; rfl) | (refine WL.val ?_ ?_ (Runs.len rfl sl39) ?_; rfl; rfl) | (refine WL.val ?_ ?_ (Runs.len rfl sl64) ?_; rfl; rfl) | (refine WL.val ?_ ?_ (Runs.len rfl sl68) ?_; rfl; rfl) | (refine WL.val ?_ ?_ (Runs.len rfl sl86) ?_; rfl; rfl) | (refine WL.val ?_ ?_ (Runs.len rfl sl113) ?_; rfl; rfl) | (refine WL.pass ?_ ?_ ?_; rfl; rfl))
      refine WL.val rfl rfl (Runs.neq rfl rfl (r := false) (by simp)) ?_
      refine WL.nil ?_
      repeat (first | refine AtExit.thenRet ?_ | refine AtExit.thenExit ?_ | refine AtExit.blockRet ?_ | refine AtExit.blockEnd ?_ | refine AtExit.blockExit ?_ | (refine AtExit.blockPast ?_ ?_; rfl))
      refine AtExit.go ?_
      refine WC.condF rfl ?_
      refine WC.skip ?_
      repeat (first | refine AtExit.thenRet ?_ | refine AtExit.thenExit ?_ | refine AtExit.blockRet ?_ | refine AtExit.blockEnd ?_ | refine AtExit.blockExit ?_ | (refine AtExit.blockPast ?_ ?_; rfl))
      refine AtExit.go ?_
      refine WC.seq (WC.region ?_)
      repeat (first | (refine WL.val ?_ ?_ (Runs.move rfl) ?_; rfl; rfl) | (refine WL.val ?_ ?_ (Runs.assign rfl) ?_; rfl; rfl) | (refine WL.val ?_ ?_ (Runs.extract rfl rfl) ?_; rfl; rfl) | (refine WL.val ?_ ?_ (Runs.nilCheck rfl) ?_; rfl; rfl) | (refine WL.val ?_ ?_ (Runs.pickT rfl rfl) ?_; rfl; rfl) | (refine WL.val ?_ ?_ (Runs.pickF rfl rfl) ?_; rfl; rfl) | (refine WL.val ?_ ?_ (Runs.len rfl sl22) ?_; rfl; rfl) | (refine WL.val ?_ ?_ (Runs.len rfl sl23) ?_; rfl; rfl) | (refine WL.val ?_ ?_ (Runs.len rfl sl27) ?_; rfl; rfl) | (refine WL.val ?_ ?_ (Runs.len rfl sl28) ?_; rfl; rfl) | (refine WL.val ?_ ?_ (Runs.len rfl sl39) ?_; rfl; rfl) | (refine WL.val ?_ ?_ (Runs.len rfl sl64) ?_; rfl; rfl) | (refine WL.val ?_ ?_ (Runs.len rfl sl68) ?_; rfl; rfl) | (refine WL.val ?_ ?_ (Runs.len rfl sl86) ?_; rfl; rfl) | (refine WL.val ?_ ?_ (Runs.len rfl sl113) ?_; rfl; rfl) | (refine WL.pass ?_ ?_ ?_; rfl; rfl))
      refine WL.nil ?_
      repeat (first | refine AtExit.thenRet ?_ | refine AtExit.thenExit ?_ | refine AtExit.blockRet ?_ | refine AtExit.blockEnd ?_ | refine AtExit.blockExit ?_ | (refine AtExit.blockPast ?_ ?_; rfl))
      refine AtExit.go ?_
      refine WC.block ?_
      refine WC.loop (α := Nat) (fun i => [(7, .int .i64 now), (8, pv C), (9, pv cnt), (11, pv U), (15, .slice pf F.length cf), (25, .int .i64 (calls : Int)), (26, .int .u64 (st : Int)), (27, pv G), (29, .slice (some ⟨gw, 0, none⟩) K.length cw), (33, .int .i64 (i : Int))])
        (fun _ w' => Below w12.heap.size w12 w') (fun i => K.length - i) 0 (by repeat (first | exact Sub.nil _ | refine Sub.cons rfl ?_)) (Below.refl _ _) ?_
      rintro i w13 b13
      refine WC.seq ?_
      refine WC.seq (WC.region ?_)
      repeat (first | (refine WL.val ?_ ?_ (Runs.move rfl) ?_; rfl; rfl) | (refine WL.val ?_ ?_ (Runs.assign rfl) ?_; rfl; rfl) | (refine WL.val ?_ ?_ (Runs.extract rfl rfl) ?_; rfl; rfl) | (refine WL.val ?_ ?_ (Runs.nilCheck rfl) ?_; rfl; rfl) | (refine WL.val ?_ ?_ (Runs.pickT rfl rfl) ?_; rfl; rfl) | (refine WL.val ?_ ?_ (Runs.pickF rfl rfl) ?_; rfl; rfl) | (refine WL.val ?_ ?_ (Runs.len rfl sl22) ?_; rfl; rfl) | (refine WL.val ?_ ?_ (Runs.len rfl sl23) ?_; rfl; rfl) | (refine WL.val ?_ ?_ (Runs.len rfl sl27) ?_; rfl; rfl) | (refine WL.val ?_ ?_ (Runs.len rfl sl28) ?_; rfl; rfl) | (refine WL.val ?_ ?_ (Runs.len rfl sl39) ?_; rfl; rfl) | (refine WL.val ?_ ?_ (Runs.len rfl sl64) ?_; rfl; rfl) | (refine WL.val ?_ ?_ (Runs.len rfl sl68) ?_; rfl; rfl) | (refine WL.val ?_ ?_ (Runs.len rfl sl86) ?_; rfl; rfl) | (refine WL.val ?_ ?_ (Runs.len rfl sl113) ?_; rfl; rfl) | (refine WL.pass ?_ ?_ ?_; rfl; rfl))
      by_cases hi : i < K.length
      case neg =>
        refine WL.val rfl rfl (Runs.lss rfl rfl (decge hi)) ?_
        refine WL.nil ?_
        repeat (first | refine AtExit.thenRet ?_ | refine AtExit.thenExit ?_ | refine AtExit.blockRet ?_ | refine AtExit.blockEnd ?_ | refine AtExit.blockExit ?_ | (refine AtExit.blockPast ?_ ?_; rfl))
        refine AtExit.go ?_
        refine WC.condF rfl ?_
        refine WC.exit ?_
        repeat (first | refine AtExit.thenRet ?_ | refine AtExit.thenExit ?_ | refine AtExit.blockRet ?_ | refine AtExit.blockEnd ?_ | refine AtExit.blockExit ?_ | (refine AtExit.blockPast ?_ ?_; rfl))
        refine AtExit.inv fun av hv => ⟨(), hv.sub (by repeat (first | exact Sub.nil _ | refine Sub.cons rfl ?_)), b13⟩
      refine WL.val rfl rfl (Runs.lss rfl rfl (declt hi)) ?_
      refine WL.nil ?_
      repeat (first | refine AtExit.thenRet ?_ | refine AtExit.thenExit ?_ | refine AtExit.blockRet ?_ | refine AtExit.blockEnd ?_ | refine AtExit.blockExit ?_ | (refine AtExit.blockPast ?_ ?_; rfl))
      refine AtExit.go ?_
      refine WC.condT rfl ?_
      refine WC.skip ?_
      repeat (first | refine AtExit.thenRet ?_ | refine AtExit.thenExit ?_ | refine AtExit.blockRet ?_ | refine AtExit.blockEnd ?_ | refine AtExit.blockExit ?_ | (refine AtExit.blockPast ?_ ?_; rfl))
      refine AtExit.go ?_
      obtain ⟨⟨x, d⟩, hx⟩ : ∃ e, K[i]? = some e := ⟨_, List.getElem?_eq_getElem hi⟩
      have hbd : Below w13.heap.size w13 w13.drew := below_drawn _ _ _
      have b14 := b13.trans (hbd.mono b13.size)
      refine WC.seq (WC.block ?_)
      refine WC.seq (WC.still 9 mixed (by kernel_rfl) ?_)
      generalize w13.drew = w14 at b14 ⊢
      refine SL.val rfl rfl (Runs.fld rfl fl66_0) ?_
      refine SL.val rfl rfl (Runs.load rfl na64 (v := .slice (some ⟨gg, 0, none⟩) K.length cg) (by rw [cell_of (below_heap b14 (lt_of_heap x12) x12)]; rfl)) ?_
      repeat (first | (refine SL.val ?_ ?_ (Runs.move rfl) ?_; rfl; rfl) | (refine SL.val ?_ ?_ (Runs.assign rfl) ?_; rfl; rfl) | (refine SL.val ?_ ?_ (Runs.extract rfl rfl) ?_; rfl; rfl) | (refine SL.val ?_ ?_ (Runs.nilCheck rfl) ?_; rfl; rfl) | (refine SL.val ?_ ?_ (Runs.pickT rfl rfl) ?_; rfl; rfl) | (refine SL.val ?_ ?_ (Runs.pickF rfl rfl) ?_; rfl; rfl) | (refine SL.val ?_ ?_ (Runs.len rfl sl22) ?_; rfl; rfl) | (refine SL.val ?_ ?_ (Runs.len rfl sl23) ?_; rfl; rfl) | (refine SL.val ?_ ?_ (Runs.len rfl sl27) ?_; rfl; rfl) | (refine SL.val ?_ ?_ (Runs.len rfl sl28) ?_; rfl; rfl) | (refine SL.val ?_ ?_ (Runs.len rfl sl39) ?_; rfl; rfl) | (refine SL.val ?_ ?_ (Runs.len rfl sl64) ?_; rfl; rfl) | (refine SL.val ?_ ?_ (Runs.len rfl sl68) ?_; rfl; rfl) | (refine SL.val ?_ ?_ (Runs.len rfl sl86) ?_; rfl; rfl) | (refine SL.val ?_ ?_ (Runs.len rfl sl113) ?_; rfl; rfl) | (refine SL.pass ?_ ?_ ?_; rfl; rfl))
      refine SL.val rfl rfl (Runs.idx rfl rfl Yba.underlying64 sz70 rfl hi) ?_
      refine SL.val rfl rfl (Runs.loadAgg (cs := keptC (x, d)) rfl na70 sz70 (fun j v hv => (rg.below b14).cell keptC_len hx hv)) ?_
      repeat (first | (refine SL.val ?_ ?_ (Runs.move rfl) ?_; rfl; rfl) | (refine SL.val ?_ ?_ (Runs.assign rfl) ?_; rfl; rfl) | (refine SL.val ?_ ?_ (Runs.extract rfl rfl) ?_; rfl; rfl) | (refine SL.val ?_ ?_ (Runs.nilCheck rfl) ?_; rfl; rfl) | (refine SL.val ?_ ?_ (Runs.pickT rfl rfl) ?_; rfl; rfl) | (refine SL.val ?_ ?_ (Runs.pickF rfl rfl) ?_; rfl; rfl) | (refine SL.val ?_ ?_ (Runs.len rfl sl22) ?_; rfl; rfl) | (refine SL.val ?_ ?_ (Runs.len rfl sl23) ?_; rfl; rfl) | (refine SL.val ?_ ?_ (Runs.len rfl sl27) ?_; rfl; rfl) | (refine SL.val ?_ ?_ (Runs.len rfl sl28) ?_; rfl; rfl) | (refine SL.val ?_ ?_ (Runs.len rfl sl39) ?_; rfl; rfl) | (refine SL.val ?_ ?_ (Runs.len rfl sl64) ?_; rfl; rfl) | (refine SL.val ?_ ?_ (Runs.len rfl sl68) ?_; rfl; rfl) | (refine SL.val ?_ ?_ (Runs.len rfl sl86) ?_; rfl; rfl) | (refine SL.val ?_ ?_ (Runs.len rfl sl113) ?_; rfl; rfl) | (refine SL.pass ?_ ?_ ?_; rfl; rfl))
      refine SL.val rfl rfl (Runs.idx rfl rfl Yba.underlying64 sz70 rfl hi) ?_
      refine SL.val rfl rfl (Runs.loadAgg (cs := keptC (x, d)) rfl na70 sz70 (fun j v hv => (rw12.below b14).cell keptC_len hx hv)) ?_
      refine SL.nil ?_
      refine WL.val rfl rfl (Runs.neq70 rfl rfl (hkx i _ hx)) ?_
      refine WL.nil ?_
      repeat (first | refine AtExit.thenRet ?_ | refine AtExit.thenExit ?_ | refine AtExit.blockRet ?_ | refine AtExit.blockEnd ?_ | refine AtExit.blockExit ?_ | (refine AtExit.blockPast ?_ ?_; rfl))
      refine AtExit.go ?_
      refine WC.condF rfl ?_
      refine WC.skip ?_
      repeat (first | refine AtExit.thenRet ?_ | refine AtExit.thenExit ?_ | refine AtExit.blockRet ?_ | refine AtExit.blockEnd ?_ | refine AtExit.blockExit ?_ | (refine AtExit.blockPast ?_ ?_; rfl))
      refine AtExit.go ?_
      refine WC.region ?_
      repeat (first | (refine WL.val ?_ ?_ (Runs.move rfl) ?_; rfl; rfl) | (refine WL.val ?_ ?_ (Runs.assign rfl) ?_; rfl; rfl) | (refine WL.val ?_ ?_ (Runs.extract rfl rfl) ?_; rfl; rfl) | (refine WL.val ?_ ?_ (Runs.nilCheck rfl) ?_; rfl; rfl) | (refine WL.val ?_ ?_ (Runs.pickT rfl rfl) ?_; rfl; rfl) | (refine WL.val ?_ ?_ (Runs.pickF rfl rfl) ?_; rfl; rfl) | (refine WL.val ?_ ?_ (Runs.len rfl sl22) ?_; rfl; rfl) | (refine WL.val ?_ ?_ (Runs.len rfl sl23) ?_; rfl; rfl) | (refine WL.val ?_ ?_ (Runs.len rfl sl27) ?_; rfl; rfl) | (refine WL.val ?_ ?_ (Runs.len rfl sl28) ?_; rfl; rfl) | (refine WL.val ?_ ?_ (Runs.len rfl sl39) ?_; rfl; rfl) | (refine WL.val ?_ ?_ (Runs.len rfl sl64) ?_; rfl; rfl) | (refine WL.val ?_ ?_ (Runs.len rfl sl68) ?_; rfl; rfl) | (refine WL.val ?_ ?_ (Runs.len rfl sl86) ?_; rfl; rfl) | (refine WL.val ?_ ?_ (Runs.len rfl sl113) ?_; rfl; rfl) | (refine WL.pass ?_ ?_ ?_; rfl; rfl))
      refine WL.val rfl rfl (Runs.add rfl rfl (r := ((i + 1 : Nat) : Int)) (wI (by omega) (by omega) (by omega))) ?_
      repeat (first | (refine WL.val ?_ ?_ (Runs.move rfl) ?_; rfl; rfl) | (refine WL.val ?_ ?_ (Runs.assign rfl) ?_; rfl; rfl) | (refine WL.val ?_ ?_ (Runs.extract rfl rfl) ?_; rfl; rfl) | (refine WL.val ?_ ?_ (Runs.nilCheck rfl) ?_; rfl; rfl) | (refine WL.val ?_ ?_ (Runs.pickT rfl rfl) ?_; rfl; rfl) | (refine WL.val ?_ ?_ (Runs.pickF rfl rfl) ?_; rfl; rfl) | (refine WL.val ?_ ?_ (Runs.len rfl sl22) ?_; rfl; rfl) | (refine WL.val ?_ ?_ (Runs.len rfl sl23) ?_; rfl; rfl) | (refine WL.val ?_ ?_ (Runs.len rfl sl27) ?_; rfl; rfl) | (refine WL.val ?_ ?_ (Runs.len rfl sl28) ?_; rfl; rfl) | (refine WL.val ?_ ?_ (Runs.len rfl sl39) ?_; rfl; rfl) | (refine WL.val ?_ ?_ (Runs.len rfl sl64) ?_; rfl; rfl) | (refine WL.val ?_ ?_ (Runs.len rfl sl68) ?_; rfl; rfl) | (refine WL.val ?_ ?_ (Runs.len rfl sl86) ?_; rfl; rfl) | (refine WL.val ?_ ?_ (Runs.len rfl sl113) ?_; rfl; rfl) | (refine WL.pass ?_ ?_ ?_; rfl; rfl))
      refine WL.nil ?_
      repeat (first | refine AtExit.thenRet ?_ | refine AtExit.thenExit ?_ | refine AtExit.blockRet ?_ | refine AtExit.blockEnd ?_ | refine AtExit.blockExit ?_ | (refine AtExit.blockPast ?_ ?_; rfl))
      refine AtExit.inv fun av hv => ⟨i + 1, hv.sub (by repeat (first | exact Sub.nil _ | refine Sub.cons rfl ?_)), b14, by show K.length - (i + 1) < K.length - i; omega⟩
  rintro _ w13 b13
  have P13 := P12.below b13
  clear P12 o12 x12
  obtain ⟨nm, hmp⟩ := P13.map
  refine WC.seq ?_
  refine WC.seq (WC.region ?_)
  repeat (first | (refine WL.val ?_ ?_ (Runs.move rfl) ?_; rfl; rfl) | (refine WL.val ?_ ?_ (Runs.assign rfl) ?_; rfl; rfl) | (refine WL.val ?_ ?_ (Runs.extract rfl rfl) ?_; rfl; rfl) | (refine WL.val ?_ ?_ (Runs.nilCheck rfl) ?_; rfl; rfl) | (refine WL.val ?_ ?_ (Runs.pickT rfl rfl) ?_; rfl; rfl) | (refine WL.val ?_ ?_ (Runs.pickF rfl rfl) ?_; rfl; rfl) | (refine WL.val ?_ ?_ (Runs.len rfl sl22) ?_; rfl; rfl) | (refine WL.val ?_ ?_ (Runs.len rfl sl23) ?_; rfl; rfl) | (refine WL.val ?_ ?_ (Runs.len rfl sl27) ?_; rfl; rfl) | (refine WL.val ?_ ?_ (Runs.len rfl sl28) ?_; rfl; rfl) | (refine WL.val ?_ ?_ (Runs.len rfl sl39) ?_; rfl; rfl) | (refine WL.val ?_ ?_ (Runs.len rfl sl64) ?_; rfl; rfl) | (refine WL.val ?_ ?_ (Runs.len rfl sl68) ?_; rfl; rfl) | (refine WL.val ?_ ?_ (Runs.len rfl sl86) ?_; rfl; rfl) | (refine WL.val ?_ ?_ (Runs.len rfl sl113) ?_; rfl; rfl) | (refine WL.pass ?_ ?_ ?_; rfl; rfl))
  refine WL.val rfl rfl (Runs.fld rfl fl58_4) ?_
  refine WL.val rfl rfl (Runs.load rfl na4 (v := .bool true) (by rw [cell_of P13.ue]; exact ue131 S0_len)) ?_
  refine WL.val rfl rfl (Runs.not rfl) ?_
  refine WL.nil ?_
  repeat (first | refine AtExit.thenRet ?_ | refine AtExit.thenExit ?_ | refine AtExit.blockRet ?_ | refine AtExit.blockEnd ?_ | refine AtExit.blockExit ?_ | (refine AtExit.blockPast ?_ ?_; rfl))
  refine AtExit.go ?_
  refine WC.condF rfl ?_
  refine WC.skip ?_
  repeat (first | refine AtExit.thenRet ?_ | refine AtExit.thenExit ?_ | refine AtExit.blockRet ?_ | refine AtExit.blockEnd ?_ | refine AtExit.blockExit ?_ | (refine AtExit.blockPast ?_ ?_; rfl))
  refine AtExit.go ?_
  refine WC.seq ?_
  refine WC.seq (WC.region ?_)
  repeat (first | (refine WL.val ?_ ?_ (Runs.move rfl) ?_; rfl; rfl) | (refine WL.val ?_ ?_ (Runs.assign rfl) ?_; rfl; rfl) | (refine WL.val ?_ ?_ (Runs.extract rfl rfl) ?_; rfl; rfl) | (refine WL.val ?_ ?_ (Runs.nilCheck rfl) ?_; rfl; rfl) | (refine WL.val ?_ ?_ (Runs.pickT rfl rfl) ?_; rfl; rfl) | (refine WL.val ?_ ?_ (Runs.pickF rfl rfl) ?_; rfl; rfl) | (refine WL.val ?_ ?_ (Runs.len rfl sl22) ?_; rfl; rfl) | (refine WL.val ?_ ?_ (Runs.len rfl sl23) ?_; rfl; rfl) | (refine WL.val ?_ ?_ (Runs.len rfl sl27) ?_; rfl; rfl) | (refine WL.val ?_ ?_ (Runs.len rfl sl28) ?_; rfl; rfl) | (refine WL.val ?_ ?_ (Runs.len rfl sl39) ?_; rfl; rfl) | (refine WL.val ?_ ?_ (Runs.len rfl sl64) ?_; rfl; rfl) | (refine WL.val ?_ ?_ (Runs.len rfl sl68) ?_; rfl; rfl) | (refine WL.val ?_ ?_ (Runs.len rfl sl86) ?_; rfl; rfl) | (refine WL.val ?_ ?_ (Runs.len rfl sl113) ?_; rfl; rfl) | (refine WL.pass ?_ ?_ ?_; rfl; rfl))
  refine WL.val rfl rfl (Runs.fld rfl fl58_2) ?_
  refine WL.val rfl rfl (Runs.loadAgg (cs := S0) rfl na55 S0_sz' (fun j v hv => by rw [cell_of P13.ue]; exact ueS hv)) ?_
  refine WL.val rfl rfl (Runs.build (ps := []) rfl built55) ?_
  refine WL.val rfl rfl (Runs.neq55 rfl rfl) ?_
  refine WL.nil ?_
  repeat (first | refine AtExit.thenRet ?_ | refine AtExit.thenExit ?_ | refine AtExit.blockRet ?_ | refine AtExit.blockEnd ?_ | refine AtExit.blockExit ?_ | (refine AtExit.blockPast ?_ ?_; rfl))
  refine AtExit.go ?_
  refine WC.condF rfl ?_
  refine WC.skip ?_
  repeat (first | refine AtExit.thenRet ?_ | refine AtExit.thenExit ?_ | refine AtExit.blockRet ?_ | refine AtExit.blockEnd ?_ | refine AtExit.blockExit ?_ | (refine AtExit.blockPast ?_ ?_; rfl))
  refine AtExit.go ?_
  refine WC.seq ?_
  refine WC.seq (WC.region ?_)
  repeat (first | (refine WL.val ?_ ?_ (Runs.move rfl) ?_; rfl; rfl) | (refine WL.val ?_ ?_ (Runs.assign rfl) ?_; rfl; rfl) | (refine WL.val ?_ ?_ (Runs.extract rfl rfl) ?_; rfl; rfl) | (refine WL.val ?_ ?_ (Runs.nilCheck rfl) ?_; rfl; rfl) | (refine WL.val ?_ ?_ (Runs.pickT rfl rfl) ?_; rfl; rfl) | (refine WL.val ?_ ?_ (Runs.pickF rfl rfl) ?_; rfl; rfl) | (refine WL.val ?_ ?_ (Runs.len rfl sl22) ?_; rfl; rfl) | (refine WL.val ?_ ?_ (Runs.len rfl sl23) ?_; rfl; rfl) | (refine WL.val ?_ ?_ (Runs.len rfl sl27) ?_; rfl; rfl) | (refine WL.val ?_ ?_ (Runs.len rfl sl28) ?_; rfl; rfl) | (refine WL.val ?_ ?_ (Runs.len rfl sl39) ?_; rfl; rfl) | (refine WL.val ?_ ?_ (Runs.len rfl sl64) ?_; rfl; rfl) | (refine WL.val ?_ ?_ (Runs.len rfl sl68) ?_; rfl; rfl) | (refine WL.val ?_ ?_ (Runs.len rfl sl86) ?_; rfl; rfl) | (refine WL.val ?_ ?_ (Runs.len rfl sl113) ?_; rfl; rfl) | (refine WL.pass ?_ ?_ ?_; rfl; rfl))
  refine WL.val rfl rfl (Runs.fld rfl fl58_3) ?_
  refine WL.val rfl rfl (Runs.load rfl na56 (v := .map (some mb)) (by rw [cell_of P13.ue]; exact ue130 S0_len)) ?_
  refine WL.val rfl rfl (Runs.eqlMN rfl) ?_
  repeat (first | (refine WL.val ?_ ?_ (Runs.move rfl) ?_; rfl; rfl) | (refine WL.val ?_ ?_ (Runs.assign rfl) ?_; rfl; rfl) | (refine WL.val ?_ ?_ (Runs.extract rfl rfl) ?_; rfl; rfl) | (refine WL.val ?_ ?_ (Runs.nilCheck rfl) ?_; rfl; rfl) | (refine WL.val ?_ ?_ (Runs.pickT rfl rfl) ?_; rfl; rfl) | (refine WL.val ?_ ?_ (Runs.pickF rfl rfl) ?_; rfl; rfl) | (refine WL.val ?_ ?_ (Runs.len rfl sl22) ?_; rfl; rfl) | (refine WL.val ?_ ?_ (Runs.len rfl sl23) ?_; rfl; rfl) | (refine WL.val ?_ ?_ (Runs.len rfl sl27) ?_; rfl; rfl) | (refine WL.val ?_ ?_ (Runs.len rfl sl28) ?_; rfl; rfl) | (refine WL.val ?_ ?_ (Runs.len rfl sl39) ?_; rfl; rfl) | (refine WL.val ?_ ?_ (Runs.len rfl sl64) ?_; rfl; rfl) | (refine WL.val ?_ ?_ (Runs.len rfl sl68) ?_; rfl; rfl) | (refine WL.val ?_ ?_ (Runs.len rfl sl86) ?_; rfl; rfl) | (refine WL.val ?_ ?_ (Runs.len rfl sl113) ?_; rfl; rfl) | (refine WL.pass ?_ ?_ ?_; rfl; rfl))
  refine WL.val rfl rfl (Runs.fld rfl fl58_3) ?_
  refine WL.val rfl rfl (Runs.load rfl na56 (v := .map (some mb)) (by rw [cell_of P13.ue]; exact ue130 S0_len)) ?_
  refine WL.val rfl rfl (Runs.lenMap0 rfl hmp) ?_
  refine WL.val rfl rfl (Runs.neq rfl rfl (r := false) (by decide)) ?_
  repeat (first | (refine WL.val ?_ ?_ (Runs.move rfl) ?_; rfl; rfl) | (refine WL.val ?_ ?_ (Runs.assign rfl) ?_; rfl; rfl) | (refine WL.val ?_ ?_ (Runs.extract rfl rfl) ?_; rfl; rfl) | (refine WL.val ?_ ?_ (Runs.nilCheck rfl) ?_; rfl; rfl) | (refine WL.val ?_ ?_ (Runs.pickT rfl rfl) ?_; rfl; rfl) | (refine WL.val ?_ ?_ (Runs.pickF rfl rfl) ?_; rfl; rfl) | (refine WL.val ?_ ?_ (Runs.len rfl sl22) ?_; rfl; rfl) | (refine WL.val ?_ ?_ (Runs.len rfl sl23) ?_; rfl; rfl) | (refine WL.val ?_ ?_ (Runs.len rfl sl27) ?_; rfl; rfl) | (refine WL.val ?_ ?_ (Runs.len rfl sl28) ?_; rfl; rfl) | (refine WL.val ?_ ?_ (Runs.len rfl sl39) ?_; rfl; rfl) | (refine WL.val ?_ ?_ (Runs.len rfl sl64) ?_; rfl; rfl) | (refine WL.val ?_ ?_ (Runs.len rfl sl68) ?_; rfl; rfl) | (refine WL.val ?_ ?_ (Runs.len rfl sl86) ?_; rfl; rfl) | (refine WL.val ?_ ?_ (Runs.len rfl sl113) ?_; rfl; rfl) | (refine WL.pass ?_ ?_ ?_; rfl; rfl))
  refine WL.nil ?_
  repeat (first | refine AtExit.thenRet ?_ | refine AtExit.thenExit ?_ | refine AtExit.blockRet ?_ | refine AtExit.blockEnd ?_ | refine AtExit.blockExit ?_ | (refine AtExit.blockPast ?_ ?_; rfl))
  refine AtExit.go ?_
  refine WC.condF rfl ?_
  refine WC.skip ?_
  repeat (first | refine AtExit.thenRet ?_ | refine AtExit.thenExit ?_ | refine AtExit.blockRet ?_ | refine AtExit.blockEnd ?_ | refine AtExit.blockExit ?_ | (refine AtExit.blockPast ?_ ?_; rfl))
  refine AtExit.go ?_
  refine WC.seq ?_
  refine WC.seq (WC.region ?_)
  refine WL.val rfl rfl (Runs.load rfl na3 (v := .int .i64 (calls : Int)) (by rw [cell_of P13.cn]; rfl)) ?_
  repeat (first | (refine WL.val ?_ ?_ (Runs.move rfl) ?_; rfl; rfl) | (refine WL.val ?_ ?_ (Runs.assign rfl) ?_; rfl; rfl) | (refine WL.val ?_ ?_ (Runs.extract rfl rfl) ?_; rfl; rfl) | (refine WL.val ?_ ?_ (Runs.nilCheck rfl) ?_; rfl; rfl) | (refine WL.val ?_ ?_ (Runs.pickT rfl rfl) ?_; rfl; rfl) | (refine WL.val ?_ ?_ (Runs.pickF rfl rfl) ?_; rfl; rfl) | (refine WL.val ?_ ?_ (Runs.len rfl sl22) ?_; rfl; rfl) | (refine WL.val ?_ ?_ (Runs.len rfl sl23) ?_; rfl; rfl) | (refine WL.val ?_ ?_ (Runs.len rfl sl27) ?_; rfl; rfl) | (refine WL.val ?_ ?_ (Runs.len rfl sl28) ?_; rfl; rfl) | (refine WL.val ?_ ?_ (Runs.len rfl sl39) ?_; rfl; rfl) | (refine WL.val ?_ ?_ (Runs.len rfl sl64) ?_; rfl; rfl) | (refine WL.val ?_ ?_ (Runs.len rfl sl68) ?_; rfl; rfl) | (refine WL.val ?_ ?_ (Runs.len rfl sl86) ?_; rfl; rfl) | (refine WL.val ?_ ?_ (Runs.len rfl sl113) ?_; rfl; rfl) | (refine WL.pass ?_ ?_ ?_; rfl; rfl))
  refine WL.val rfl rfl (Runs.neq rfl rfl (r := false) (by simp)) ?_
  repeat (first | (refine WL.val ?_ ?_ (Runs.move rfl) ?_; rfl; rfl) | (refine WL.val ?_ ?_ (Runs.assign rfl) ?_; rfl; rfl) | (refine WL.val ?_ ?_ (Runs.extract rfl rfl) ?_; rfl; rfl) | (refine WL.val ?_ ?_ (Runs.nilCheck rfl) ?_; rfl; rfl) | (refine WL.val ?_ ?_ (Runs.pickT rfl rfl) ?_; rfl; rfl) | (refine WL.val ?_ ?_ (Runs.pickF rfl rfl) ?_; rfl; rfl) | (refine WL.val ?_ ?_ (Runs.len rfl sl22) ?_; rfl; rfl) | (refine WL.val ?_ ?_ (Runs.len rfl sl23) ?_; rfl; rfl) | (refine WL.val ?_ ?_ (Runs.len rfl sl27) ?_; rfl; rfl) | (refine WL.val ?_ ?_ (Runs.len rfl sl28) ?_; rfl; rfl) | (refine WL.val ?_ ?_ (Runs.len rfl sl39) ?_; rfl; rfl) | (refine WL.val ?_ ?_ (Runs.len rfl sl64) ?_; rfl; rfl) | (refine WL.val ?_ ?_ (Runs.len rfl sl68) ?_; rfl; rfl) | (refine WL.val ?_ ?_ (Runs.len rfl sl86) ?_; rfl; rfl) | (refine WL.val ?_ ?_ (Runs.len rfl sl113) ?_; rfl; rfl) | (refine WL.pass ?_ ?_ ?_; rfl; rfl))
  refine WL.val rfl rfl (Runs.fld rfl fl30_2) ?_
  refine WL.val rfl rfl (Runs.load rfl na25 (v := .int .u64 (st : Int)) (by rw [cell_of P13.hq.clk]; rfl)) ?_
  repeat (first | (refine WL.val ?_ ?_ (Runs.move rfl) ?_; rfl; rfl) | (refine WL.val ?_ ?_ (Runs.assign rfl) ?_; rfl; rfl) | (refine WL.val ?_ ?_ (Runs.extract rfl rfl) ?_; rfl; rfl) | (refine WL.val ?_ ?_ (Runs.nilCheck rfl) ?_; rfl; rfl) | (refine WL.val ?_ ?_ (Runs.pickT rfl rfl) ?_; rfl; rfl) | (refine WL.val ?_ ?_ (Runs.pickF rfl rfl) ?_; rfl; rfl) | (refine WL.val ?_ ?_ (Runs.len rfl sl22) ?_; rfl; rfl) | (refine WL.val ?_ ?_ (Runs.len rfl sl23) ?_; rfl; rfl) | (refine WL.val ?_ ?_ (Runs.len rfl sl27) ?_; rfl; rfl) | (refine WL.val ?_ ?_ (Runs.len rfl sl28) ?_; rfl; rfl) | (refine WL.val ?_ ?_ (Runs.len rfl sl39) ?_; rfl; rfl) | (refine WL.val ?_ ?_ (Runs.len rfl sl64) ?_; rfl; rfl) | (refine WL.val ?_ ?_ (Runs.len rfl sl68) ?_; rfl; rfl) | (refine WL.val ?_ ?_ (Runs.len rfl sl86) ?_; rfl; rfl) | (refine WL.val ?_ ?_ (Runs.len rfl sl113) ?_; rfl; rfl) | (refine WL.pass ?_ ?_ ?_; rfl; rfl))
  refine WL.val rfl rfl (Runs.neq rfl rfl (r := false) (by simp)) ?_
  repeat (first | (refine WL.val ?_ ?_ (Runs.move rfl) ?_; rfl; rfl) | (refine WL.val ?_ ?_ (Runs.assign rfl) ?_; rfl; rfl) | (refine WL.val ?_ ?_ (Runs.extract rfl rfl) ?_; rfl; rfl) | (refine WL.val ?_ ?_ (Runs.nilCheck rfl) ?_; rfl; rfl) | (refine WL.val ?_ ?_ (Runs.pickT rfl rfl) ?_; rfl; rfl) | (refine WL.val ?_ ?_ (Runs.pickF rfl rfl) ?_; rfl; rfl) | (refine WL.val ?_ ?_ (Runs.len rfl sl22) ?_; rfl; rfl) | (refine WL.val ?_ ?_ (Runs.len rfl sl23) ?_; rfl; rfl) | (refine WL.val ?_ ?_ (Runs.len rfl sl27) ?_; rfl; rfl) | (refine WL.val ?_ ?_ (Runs.len rfl sl28) ?_; rfl; rfl) | (refine WL.val ?_ ?_ (Runs.len rfl sl39) ?_; rfl; rfl) | (refine WL.val ?_ ?_ (Runs.len rfl sl64) ?_; rfl; rfl) | (refine WL.val ?_ ?_ (Runs.len rfl sl68) ?_; rfl; rfl) | (refine WL.val ?_ ?_ (Runs.len rfl sl86) ?_; rfl; rfl) | (refine WL.val ?_ ?_ (Runs.len rfl sl113) ?_; rfl; rfl) | (refine WL.pass ?_ ?_ ?_; rfl; rfl))
  refine WL.val rfl rfl (Runs.fld rfl fl30_0) ?_
  refine WL.val rfl rfl (Runs.load rfl na24 (v := .int .i64 now) (by rw [cell_of P13.hq.clk]; rfl)) ?_
  repeat (first | (refine WL.val ?_ ?_ (Runs.move rfl) ?_; rfl; rfl) | (refine WL.val ?_ ?_ (Runs.assign rfl) ?_; rfl; rfl) | (refine WL.val ?_ ?_ (Runs.extract rfl rfl) ?_; rfl; rfl) | (refine WL.val ?_ ?_ (Runs.nilCheck rfl) ?_; rfl; rfl) | (refine WL.val ?_ ?_ (Runs.pickT rfl rfl) ?_; rfl; rfl) | (refine WL.val ?_ ?_ (Runs.pickF rfl rfl) ?_; rfl; rfl) | (refine WL.val ?_ ?_ (Runs.len rfl sl22) ?_; rfl; rfl) | (refine WL.val ?_ ?_ (Runs.len rfl sl23) ?_; rfl; rfl) | (refine WL.val ?_ ?_ (Runs.len rfl sl27) ?_; rfl; rfl) | (refine WL.val ?_ ?_ (Runs.len rfl sl28) ?_; rfl; rfl) | (refine WL.val ?_ ?_ (Runs.len rfl sl39) ?_; rfl; rfl) | (refine WL.val ?_ ?_ (Runs.len rfl sl64) ?_; rfl; rfl) | (refine WL.val ?_ ?_ (Runs.len rfl sl68) ?_; rfl; rfl) | (refine WL.val ?_ ?_ (Runs.len rfl sl86) ?_; rfl; rfl) | (refine WL.val ?_ ?_ (Runs.len rfl sl113) ?_; rfl; rfl) | (refine WL.pass ?_ ?_ ?_; rfl; rfl))
  refine WL.val rfl rfl (Runs.neq rfl rfl (r := false) (by simp)) ?_
  repeat (first | (refine WL.val ?_ ?_ (Runs.move rfl) ?_; rfl; rfl) | (refine WL.val ?_ ?_ (Runs.assign rfl) ?_; rfl; rfl) | (refine WL.val ?_ ?_ (Runs.extract rfl rfl) ?_; rfl; rfl) | (refine WL.val ?_ ?_ (Runs.nilCheck rfl) ?_; rfl; rfl) | (refine WL.val ?_ ?_ (Runs.pickT rfl rfl) ?_; rfl; rfl) | (refine WL.val ?_ ?_ (Runs.pickF rfl rfl) ?_; rfl; rfl) | (refine WL.val ?_ ?_ (Runs.len rfl sl22) ?_; rfl; rfl) | (refine WL.val ?_ ?_ (Runs.len rfl sl23) ?_; rfl; rfl) | (refine WL.val ?_ ?_ (Runs.len rfl sl27) ?_; rfl; rfl) | (refine WL.val ?_ ?_ (Runs.len rfl sl28) ?_; rfl; rfl) | (refine WL.val ?_ ?_ (Runs.len rfl sl39) ?_; rfl; rfl) | (refine WL.val ?_ ?_ (Runs.len rfl sl64) ?_; rfl; rfl) | (refine WL.val ?_ ?_ (Runs.len rfl sl68) ?_; rfl; rfl) | (refine WL.val ?_ ?_ (Runs.len rfl sl86) ?_; rfl; rfl) | (refine WL.val ?_ ?_ (Runs.len rfl sl113) ?_; rfl; rfl) | (refine WL.pass ?_ ?_ ?_; rfl; rfl))
  refine WL.val rfl rfl (Runs.fld rfl fl58_0) ?_
  refine WL.val rfl rfl (Runs.load rfl na26 (v := pv C) (by rw [cell_of P13.ue]; exact ue0)) ?_
  repeat (first | (refine WL.val ?_ ?_ (Runs.move rfl) ?_; rfl; rfl) | (refine WL.val ?_ ?_ (Runs.assign rfl) ?_; rfl; rfl) | (refine WL.val ?_ ?_ (Runs.extract rfl rfl) ?_; rfl; rfl) | (refine WL.val ?_ ?_ (Runs.nilCheck rfl) ?_; rfl; rfl) | (refine WL.val ?_ ?_ (Runs.pickT rfl rfl) ?_; rfl; rfl) | (refine WL.val ?_ ?_ (Runs.pickF rfl rfl) ?_; rfl; rfl) | (refine WL.val ?_ ?_ (Runs.len rfl sl22) ?_; rfl; rfl) | (refine WL.val ?_ ?_ (Runs.len rfl sl23) ?_; rfl; rfl) | (refine WL.val ?_ ?_ (Runs.len rfl sl27) ?_; rfl; rfl) | (refine WL.val ?_ ?_ (Runs.len rfl sl28) ?_; rfl; rfl) | (refine WL.val ?_ ?_ (Runs.len rfl sl39) ?_; rfl; rfl) | (refine WL.val ?_ ?_ (Runs.len rfl sl64) ?_; rfl; rfl) | (refine WL.val ?_ ?_ (Runs.len rfl sl68) ?_; rfl; rfl) | (refine WL.val ?_ ?_ (Runs.len rfl sl86) ?_; rfl; rfl) | (refine WL.val ?_ ?_ (Runs.len rfl sl113) ?_; rfl; rfl) | (refine WL.pass ?_ ?_ ?_; rfl; rfl))
  refine WL.val rfl rfl (Runs.neqPP rfl rfl pt26 ip26) ?_
  repeat (first | (refine WL.val ?_ ?_ (Runs.move rfl) ?_; rfl; rfl) | (refine WL.val ?_ ?_ (Runs.assign rfl) ?_; rfl; rfl) | (refine WL.val ?_ ?_ (Runs.extract rfl rfl) ?_; rfl; rfl) | (refine WL.val ?_ ?_ (Runs.nilCheck rfl) ?_; rfl; rfl) | (refine WL.val ?_ ?_ (Runs.pickT rfl rfl) ?_; rfl; rfl) | (refine WL.val ?_ ?_ (Runs.pickF rfl rfl) ?_; rfl; rfl) | (refine WL.val ?_ ?_ (Runs.len rfl sl22) ?_; rfl; rfl) | (refine WL.val ?_ ?_ (Runs.len rfl sl23) ?_; rfl; rfl) | (refine WL.val ?_ ?_ (Runs.len rfl sl27) ?_; rfl; rfl) | (refine WL.val ?_ ?_ (Runs.len rfl sl28) ?_; rfl; rfl) | (refine WL.val ?_ ?_ (Runs.len rfl sl39) ?_; rfl; rfl) | (refine WL.val ?_ ?_ (Runs.len rfl sl64) ?_; rfl; rfl) | (refine WL.val ?_ ?_ (Runs.len rfl sl68) ?_; rfl; rfl) | (refine WL.val ?_ ?_ (Runs.len rfl sl86) ?_; rfl; rfl) | (refine WL.val ?_ ?_ (Runs.len rfl sl113) ?_; rfl; rfl) | (refine WL.pass ?_ ?_ ?_; rfl; rfl))
  refine WL.nil ?_
  repeat (first | refine AtExit.thenRet ?_ | refine AtExit.thenExit ?_ | refine AtExit.blockRet ?_ | refine AtExit.blockEnd ?_ | refine AtExit.blockExit ?_ | (refine AtExit.blockPast ?_ ?_; rfl))
  refine AtExit.go ?_
  refine WC.condF rfl ?_
  refine WC.skip ?_
  repeat (first | refine AtExit.thenRet ?_ | refine AtExit.thenExit ?_ | refine AtExit.blockRet ?_ | refine AtExit.blockEnd ?_ | refine AtExit.blockExit ?_ | (refine AtExit.blockPast ?_ ?_; rfl))
  refine AtExit.go ?_
  obtain ⟨pq, cq, rfl⟩ := own_shape P13.hq.own
  have hlen : ts'.length = F.length := P13.pm.length_eq
  refine WC.seq ?_
  refine WC.seq (WC.region ?_)
  repeat (first | (refine WL.val ?_ ?_ (Runs.move rfl) ?_; rfl; rfl) | (refine WL.val ?_ ?_ (Runs.assign rfl) ?_; rfl; rfl) | (refine WL.val ?_ ?_ (Runs.extract rfl rfl) ?_; rfl; rfl) | (refine WL.val ?_ ?_ (Runs.nilCheck rfl) ?_; rfl; rfl) | (refine WL.val ?_ ?_ (Runs.pickT rfl rfl) ?_; rfl; rfl) | (refine WL.val ?_ ?_ (Runs.pickF rfl rfl) ?_; rfl; rfl) | (refine WL.val ?_ ?_ (Runs.len rfl sl22) ?_; rfl; rfl) | (refine WL.val ?_ ?_ (Runs.len rfl sl23) ?_; rfl; rfl) | (refine WL.val ?_ ?_ (Runs.len rfl sl27) ?_; rfl; rfl) | (refine WL.val ?_ ?_ (Runs.len rfl sl28) ?_; rfl; rfl) | (refine WL.val ?_ ?_ (Runs.len rfl sl39) ?_; rfl; rfl) | (refine WL.val ?_ ?_ (Runs.len rfl sl64) ?_; rfl; rfl) | (refine WL.val ?_ ?_ (Runs.len rfl sl68) ?_; rfl; rfl) | (refine WL.val ?_ ?_ (Runs.len rfl sl86) ?_; rfl; rfl) | (refine WL.val ?_ ?_ (Runs.len rfl sl113) ?_; rfl; rfl) | (refine WL.pass ?_ ?_ ?_; rfl; rfl))
  refine WL.val rfl rfl (Runs.fld rfl fl30_1) ?_
  refine WL.val rfl rfl (Runs.load rfl na28 (v := .slice pq ts'.length cq) P13.hq.c1) ?_
  repeat (first | (refine WL.val ?_ ?_ (Runs.move rfl) ?_; rfl; rfl) | (refine WL.val ?_ ?_ (Runs.assign rfl) ?_; rfl; rfl) | (refine WL.val ?_ ?_ (Runs.extract rfl rfl) ?_; rfl; rfl) | (refine WL.val ?_ ?_ (Runs.nilCheck rfl) ?_; rfl; rfl) | (refine WL.val ?_ ?_ (Runs.pickT rfl rfl) ?_; rfl; rfl) | (refine WL.val ?_ ?_ (Runs.pickF rfl rfl) ?_; rfl; rfl) | (refine WL.val ?_ ?_ (Runs.len rfl sl22) ?_; rfl; rfl) | (refine WL.val ?_ ?_ (Runs.len rfl sl23) ?_; rfl; rfl) | (refine WL.val ?_ ?_ (Runs.len rfl sl27) ?_; rfl; rfl) | (refine WL.val ?_ ?_ (Runs.len rfl sl28) ?_; rfl; rfl) | (refine WL.val ?_ ?_ (Runs.len rfl sl39) ?_; rfl; rfl) | (refine WL.val ?_ ?_ (Runs.len rfl sl64) ?_; rfl; rfl) | (refine WL.val ?_ ?_ (Runs.len rfl sl68) ?_; rfl; rfl) | (refine WL.val ?_ ?_ (Runs.len rfl sl86) ?_; rfl; rfl) | (refine WL.val ?_ ?_ (Runs.len rfl sl113) ?_; rfl; rfl) | (refine WL.pass ?_ ?_ ?_; rfl; rfl))
  refine WL.val rfl rfl (Runs.neq rfl rfl (r := false) (by rw [hlen]; simp)) ?_
  refine WL.nil ?_
  repeat (first | refine AtExit.thenRet ?_ | refine AtExit.thenExit ?_ | refine AtExit.blockRet ?_ | refine AtExit.blockEnd ?_ | refine AtExit.blockExit ?_ | (refine AtExit.blockPast ?_ ?_; rfl))
  refine AtExit.go ?_
  refine WC.condF rfl ?_
  refine WC.skip ?_
  repeat (first | refine AtExit.thenRet ?_ | refine AtExit.thenExit ?_ | refine AtExit.blockRet ?_ | refine AtExit.blockEnd ?_ | refine AtExit.blockExit ?_ | (refine AtExit.blockPast ?_ ?_; rfl))
  refine AtExit.go ?_
  have hFn : F.Nodup := P13.pm.nodup_iff.1 P13.hq.nd
  refine WC.seq (WC.region ?_)
  repeat (first | (refine WL.val ?_ ?_ (Runs.move rfl) ?_; rfl; rfl) | (refine WL.val ?_ ?_ (Runs.assign rfl) ?_; rfl; rfl) | (refine WL.val ?_ ?_ (Runs.extract rfl rfl) ?_; rfl; rfl) | (refine WL.val ?_ ?_ (Runs.nilCheck rfl) ?_; rfl; rfl) | (refine WL.val ?_ ?_ (Runs.pickT rfl rfl) ?_; rfl; rfl) | (refine WL.val ?_ ?_ (Runs.pickF rfl rfl) ?_; rfl; rfl) | (refine WL.val ?_ ?_ (Runs.len rfl sl22) ?_; rfl; rfl) | (refine WL.val ?_ ?_ (Runs.len rfl sl23) ?_; rfl; rfl) | (refine WL.val ?_ ?_ (Runs.len rfl sl27) ?_; rfl; rfl) | (refine WL.val ?_ ?_ (Runs.len rfl sl28) ?_; rfl; rfl) | (refine WL.val ?_ ?_ (Runs.len rfl sl39) ?_; rfl; rfl) | (refine WL.val ?_ ?_ (Runs.len rfl sl64) ?_; rfl; rfl) | (refine WL.val ?_ ?_ (Runs.len rfl sl68) ?_; rfl; rfl) | (refine WL.val ?_ ?_ (Runs.len rfl sl86) ?_; rfl; rfl) | (refine WL.val ?_ ?_ (Runs.len rfl sl113) ?_; rfl; rfl) | (refine WL.pass ?_ ?_ ?_; rfl; rfl))
  refine WL.val rfl rfl (Runs.make rfl rfl Yba.underlying68 in4 rfl (by omega) (by omega)) ?_
  repeat (first | (refine WL.val ?_ ?_ (Runs.move rfl) ?_; rfl; rfl) | (refine WL.val ?_ ?_ (Runs.assign rfl) ?_; rfl; rfl) | (refine WL.val ?_ ?_ (Runs.extract rfl rfl) ?_; rfl; rfl) | (refine WL.val ?_ ?_ (Runs.nilCheck rfl) ?_; rfl; rfl) | (refine WL.val ?_ ?_ (Runs.pickT rfl rfl) ?_; rfl; rfl) | (refine WL.val ?_ ?_ (Runs.pickF rfl rfl) ?_; rfl; rfl) | (refine WL.val ?_ ?_ (Runs.len rfl sl22) ?_; rfl; rfl) | (refine WL.val ?_ ?_ (Runs.len rfl sl23) ?_; rfl; rfl) | (refine WL.val ?_ ?_ (Runs.len rfl sl27) ?_; rfl; rfl) | (refine WL.val ?_ ?_ (Runs.len rfl sl28) ?_; rfl; rfl) | (refine WL.val ?_ ?_ (Runs.len rfl sl39) ?_; rfl; rfl) | (refine WL.val ?_ ?_ (Runs.len rfl sl64) ?_; rfl; rfl) | (refine WL.val ?_ ?_ (Runs.len rfl sl68) ?_; rfl; rfl) | (refine WL.val ?_ ?_ (Runs.len rfl sl86) ?_; rfl; rfl) | (refine WL.val ?_ ?_ (Runs.len rfl sl113) ?_; rfl; rfl) | (refine WL.pass ?_ ?_ ?_; rfl; rfl))
  refine WL.nil ?_
  repeat (first | refine AtExit.thenRet ?_ | refine AtExit.thenExit ?_ | refine AtExit.blockRet ?_ | refine AtExit.blockEnd ?_ | refine AtExit.blockExit ?_ | (refine AtExit.blockPast ?_ ?_; rfl))
  refine AtExit.go ?_
  have b14 := below_new w13 (.cells (Array.replicate F.length (.bool false)) 4) (Nat.le_refl _)
  have y14 := heap_new w13 (.cells (Array.replicate F.length (.bool false)) 4)
  generalize w13.alloc _ = w14 at b14 y14 ⊢
  obtain ⟨gm, hgm⟩ : ∃ C, C = w13.heap.size := ⟨_, rfl⟩
  rw [← hgm] at y14 ⊢
  have r14 : RwA bC 4 w14 gm (List.replicate F.length false) := ⟨[], by rw [y14, flat_bC, List.append_nil, List.toArray_replicate]⟩
  refine WC.cut (α := Unit) (fun _ => []) (fun _ w' => Below w13.heap.size w13 w') ?_ ?_
  · refine WC.seq (WC.region ?_)
    repeat (first | (refine WL.val ?_ ?_ (Runs.move rfl) ?_; rfl; rfl) | (refine WL.val ?_ ?_ (Runs.assign rfl) ?_; rfl; rfl) | (refine WL.val ?_ ?_ (Runs.extract rfl rfl) ?_; rfl; rfl) | (refine WL.val ?_ ?_ (Runs.nilCheck rfl) ?_; rfl; rfl) | (refine WL.val ?_ ?_ (Runs.pickT rfl rfl) ?_; rfl; rfl) | (refine WL.val ?_ ?_ (Runs.pickF rfl rfl) ?_; rfl; rfl) | (refine WL.val ?_ ?_ (Runs.len rfl sl22) ?_; rfl; rfl) | (refine WL.val ?_ ?_ (Runs.len rfl sl23) ?_; rfl; rfl) | (refine WL.val ?_ ?_ (Runs.len rfl sl27) ?_; rfl; rfl) | (refine WL.val ?_ ?_ (Runs.len rfl sl28) ?_; rfl; rfl) | (refine WL.val ?_ ?_ (Runs.len rfl sl39) ?_; rfl; rfl) | (refine WL.val ?_ ?_ (Runs.len rfl sl64) ?_; rfl; rfl) | (refine WL.val ?_ ?_ (Runs.len rfl sl68) ?_; rfl; rfl) | (refine WL.val ?_ ?_ (Runs.len rfl sl86) ?_; rfl; rfl) | (refine WL.val ?_ ?_ (Runs.len rfl sl113) ?_; rfl; rfl) | (refine WL.pass ?_ ?_ ?_; rfl; rfl))
    refine WL.nil ?_
    repeat (first | refine AtExit.thenRet ?_ | refine AtExit.thenExit ?_ | refine AtExit.blockRet ?_ | refine AtExit.blockEnd ?_ | refine AtExit.blockExit ?_ | (refine AtExit.blockPast ?_ ?_; rfl))
    refine AtExit.go ?_
    refine WC.block ?_
    refine WC.loop (α := Nat × List Bool) (fun | (i, _) => [(8, pv C), (15, .slice pf F.length cf), (34, .slice (some ⟨gm, 0, none⟩) F.length F.length), (35, .int .i64 (i : Int))])
      (fun | (i, u) => fun w' => i ≤ F.length ∧ Below w13.heap.size w13 w' ∧ RwA bC 4 w' gm u ∧ Fm F ts' i u) (fun | (i, _) => F.length - i) (0, List.replicate F.length false) (by repeat (first | exact Sub.nil _ | refine Sub.cons rfl ?_))
      ⟨Nat.zero_le _, b14, r14, ⟨by simp, fun j e hj => by simp [List.getElem?_replicate]⟩⟩ ?_
    clear r14 y14 b14
    rintro ⟨i, u⟩ w15 ⟨hi, b15, r15, f15⟩
    have P15 := P13.below b15
    refine WC.seq ?_
    refine WC.seq (WC.region ?_)
    repeat (first | (refine WL.val ?_ ?_ (Runs.move rfl) ?_; rfl; rfl) | (refine WL.val ?_ ?_ (Runs.assign rfl) ?_; rfl; rfl) | (refine WL.val ?_ ?_ (Runs.extract rfl rfl) ?_; rfl; rfl) | (refine WL.val ?_ ?_ (Runs.nilCheck rfl) ?_; rfl; rfl) | (refine WL.val ?_ ?_ (Runs.pickT rfl rfl) ?_; rfl; rfl) | (refine WL.val ?_ ?_ (Runs.pickF rfl rfl) ?_; rfl; rfl) | (refine WL.val ?_ ?_ (Runs.len rfl sl22) ?_; rfl; rfl) | (refine WL.val ?_ ?_ (Runs.len rfl sl23) ?_; rfl; rfl) | (refine WL.val ?_ ?_ (Runs.len rfl sl27) ?_; rfl; rfl) | (refine WL.val ?_ ?_ (Runs.len rfl sl28) ?_; rfl; rfl) | (refine WL.val ?_ ?_ (Runs.len rfl sl39) ?_; rfl; rfl) | (refine WL.val ?_ ?_ (Runs.len rfl sl64) ?_; rfl; rfl) | (refine WL.val ?_ ?_ (Runs.len rfl sl68) ?_; rfl; rfl) | (refine WL.val ?_ ?_ (Runs.len rfl sl86) ?_; rfl; rfl) | (refine WL.val ?_ ?_ (Runs.len rfl sl113) ?_; rfl; rfl) | (refine WL.pass ?_ ?_ ?_; rfl; rfl))
    refine WL.val rfl rfl (Runs.fld rfl fl30_1) ?_
    refine WL.val rfl rfl (Runs.load rfl na28 (v := .slice pq ts'.length cq) P15.hq.c1) ?_
    repeat (first | (refine WL.val ?_ ?_ (Runs.move rfl) ?_; rfl; rfl) | (refine WL.val ?_ ?_ (Runs.assign rfl) ?_; rfl; rfl) | (refine WL.val ?_ ?_ (Runs.extract rfl rfl) ?_; rfl; rfl) | (refine WL.val ?_ ?_ (Runs.nilCheck rfl) ?_; rfl; rfl) | (refine WL.val ?_ ?_ (Runs.pickT rfl rfl) ?_; rfl; rfl) | (refine WL.val ?_ ?_ (Runs.pickF rfl rfl) ?_; rfl; rfl) | (refine WL.val ?_ ?_ (Runs.len rfl sl22) ?_; rfl; rfl) | (refine WL.val ?_ ?_ (Runs.len rfl sl23) ?_; rfl; rfl) | (refine WL.val ?_ ?_ (Runs.len rfl sl27) ?_; rfl; rfl) | (refine WL.val ?_ ?_ (Runs.len rfl sl28) ?_; rfl; rfl) | (refine WL.val ?_ ?_ (Runs.len rfl sl39) ?_; rfl; rfl) | (refine WL.val ?_ ?_ (Runs.len rfl sl64) ?_; rfl; rfl) | (refine WL.val ?_ ?_ (Runs.len rfl sl68) ?_; rfl; rfl) | (refine WL.val ?_ ?_ (Runs.len rfl sl86) ?_; rfl; rfl) | (refine WL.val ?_ ?_ (Runs.len rfl sl113) ?_; rfl; rfl) | (refine WL.pass ?_ ?_ ?_; rfl; rfl))
    by_cases hil : i < ts'.length
    case neg =>
      refine WL.val rfl rfl (Runs.lss rfl rfl (decge hil)) ?_
      refine WL.nil ?_
      repeat (first | refine AtExit.thenRet ?_ | refine AtExit.thenExit ?_ | refine AtExit.blockRet ?_ | refine AtExit.blockEnd ?_ | refine AtExit.blockExit ?_ | (refine AtExit.blockPast ?_ ?_; rfl))
      refine AtExit.go ?_
      refine WC.condF rfl ?_
      refine WC.exit ?_
      repeat (first | refine AtExit.thenRet ?_ | refine AtExit.thenExit ?_ | refine AtExit.blockRet ?_ | refine AtExit.blockEnd ?_ | refine AtExit.blockExit ?_ | (refine AtExit.blockPast ?_ ?_; rfl))
      refine AtExit.inv fun av hv => ⟨(), hv.sub (by repeat (first | exact Sub.nil _ | refine Sub.cons rfl ?_)), b15⟩
    refine WL.val rfl rfl (Runs.lss rfl rfl (declt hil)) ?_
    refine WL.nil ?_
    repeat (first | refine AtExit.thenRet ?_ | refine AtExit.thenExit ?_ | refine AtExit.blockRet ?_ | refine AtExit.blockEnd ?_ | refine AtExit.blockExit ?_ | (refine AtExit.blockPast ?_ ?_; rfl))
    refine AtExit.go ?_
    refine WC.condT rfl ?_
    refine WC.skip ?_
    repeat (first | refine AtExit.thenRet ?_ | refine AtExit.thenExit ?_ | refine AtExit.blockRet ?_ | refine AtExit.blockEnd ?_ | refine AtExit.blockExit ?_ | (refine AtExit.blockPast ?_ ?_; rfl))
    refine AtExit.go ?_
    obtain ⟨t, ht⟩ : ∃ t, ts'[i]? = some t := ⟨_, List.getElem?_eq_getElem hil⟩
    obtain ⟨gf, cf', ef, _, rF⟩ := P13.frn.row (by omega)
    cases ef
    obtain ⟨gq, cq', eq⟩ := own_row P13.hq.own (by omega)
    cases eq
    have htn : t ∉ ts'.take i := fun hm => by
      obtain ⟨h1, _⟩ := splitA ht
      have hn := P13.hq.nd
      rw [h1, List.nodup_append] at hn
      exact hn.2.2 t hm t (by simp) rfl
    have htF : t ∈ F := P13.pm.mem_iff.1 (List.mem_of_getElem? ht)
    refine WC.seq (WC.block ?_)
    refine WC.seq (WC.region ?_)
    repeat (first | (refine WL.val ?_ ?_ (Runs.move rfl) ?_; rfl; rfl) | (refine WL.val ?_ ?_ (Runs.assign rfl) ?_; rfl; rfl) | (refine WL.val ?_ ?_ (Runs.extract rfl rfl) ?_; rfl; rfl) | (refine WL.val ?_ ?_ (Runs.nilCheck rfl) ?_; rfl; rfl) | (refine WL.val ?_ ?_ (Runs.pickT rfl rfl) ?_; rfl; rfl) | (refine WL.val ?_ ?_ (Runs.pickF rfl rfl) ?_; rfl; rfl) | (refine WL.val ?_ ?_ (Runs.len rfl sl22) ?_; rfl; rfl) | (refine WL.val ?_ ?_ (Runs.len rfl sl23) ?_; rfl; rfl) | (refine WL.val ?_ ?_ (Runs.len rfl sl27) ?_; rfl; rfl) | (refine WL.val ?_ ?_ (Runs.len rfl sl28) ?_; rfl; rfl) | (refine WL.val ?_ ?_ (Runs.len rfl sl39) ?_; rfl; rfl) | (refine WL.val ?_ ?_ (Runs.len rfl sl64) ?_; rfl; rfl) | (refine WL.val ?_ ?_ (Runs.len rfl sl68) ?_; rfl; rfl) | (refine WL.val ?_ ?_ (Runs.len rfl sl86) ?_; rfl; rfl) | (refine WL.val ?_ ?_ (Runs.len rfl sl113) ?_; rfl; rfl) | (refine WL.pass ?_ ?_ ?_; rfl; rfl))
    refine WL.nil ?_
    repeat (first | refine AtExit.thenRet ?_ | refine AtExit.thenExit ?_ | refine AtExit.blockRet ?_ | refine AtExit.blockEnd ?_ | refine AtExit.blockExit ?_ | (refine AtExit.blockPast ?_ ?_; rfl))
    refine AtExit.go ?_
    refine WC.cut (α := List Bool) (fun _ => [(8, pv C), (15, .slice (some ⟨gf, 0, none⟩) F.length cf), (34, .slice (some ⟨gm, 0, none⟩) F.length F.length), (35, .int .i64 (i : Int)), (36, .bool true)])
      (fun u' w' => Below w13.heap.size w13 w' ∧ RwA bC 4 w' gm u' ∧ Fm F ts' (i + 1) u') ?_ ?_
    · refine WC.seq (WC.region ?_)
      repeat (first | (refine WL.val ?_ ?_ (Runs.move rfl) ?_; rfl; rfl) | (refine WL.val ?_ ?_ (Runs.assign rfl) ?_; rfl; rfl) | (refine WL.val ?_ ?_ (Runs.extract rfl rfl) ?_; rfl; rfl) | (refine WL.val ?_ ?_ (Runs.nilCheck rfl) ?_; rfl; rfl) | (refine WL.val ?_ ?_ (Runs.pickT rfl rfl) ?_; rfl; rfl) | (refine WL.val ?_ ?_ (Runs.pickF rfl rfl) ?_; rfl; rfl) | (refine WL.val ?_ ?_ (Runs.len rfl sl22) ?_; rfl; rfl) | (refine WL.val ?_ ?_ (Runs.len rfl sl23) ?_; rfl; rfl) | (refine WL.val ?_ ?_ (Runs.len rfl sl27) ?_; rfl; rfl) | (refine WL.val ?_ ?_ (Runs.len rfl sl28) ?_; rfl; rfl) | (refine WL.val ?_ ?_ (Runs.len rfl sl39) ?_; rfl; rfl) | (refine WL.val ?_ ?_ (Runs.len rfl sl64) ?_; rfl; rfl) | (refine WL.val ?_ ?_ (Runs.len rfl sl68) ?_; rfl; rfl) | (refine WL.val ?_ ?_ (Runs.len rfl sl86) ?_; rfl; rfl) | (refine WL.val ?_ ?_ (Runs.len rfl sl113) ?_; rfl; rfl) | (refine WL.pass ?_ ?_ ?_; rfl; rfl))
      refine WL.nil ?_
      repeat (first | refine AtExit.thenRet ?_ | refine AtExit.thenExit ?_ | refine AtExit.blockRet ?_ | refine AtExit.blockEnd ?_ | refine AtExit.blockExit ?_ | (refine AtExit.blockPast ?_ ?_; rfl))
      refine AtExit.go ?_
      refine WC.block ?_
      refine WC.loop (α := Nat) (fun j => [(8, pv C), (15, .slice (some ⟨gf, 0, none⟩) F.length cf), (34, .slice (some ⟨gm, 0, none⟩) F.length F.length), (35, .int .i64 (i : Int)), (36, .bool false), (37, .int .i64 (j : Int))])
        (fun j w' => Below w15.heap.size w15 w' ∧ ∀ j' f : Nat, j' < j → F[j']? = some f → f ≠ t) (fun j => F.length - j) 0 (by repeat (first | exact Sub.nil _ | refine Sub.cons rfl ?_)) ⟨Below.refl _ _, fun j' f h => absurd h (by omega)⟩ ?_
      rintro j w16 ⟨b16, hno⟩
      refine WC.seq ?_
      refine WC.seq (WC.region ?_)
      repeat (first | (refine WL.val ?_ ?_ (Runs.move rfl) ?_; rfl; rfl) | (refine WL.val ?_ ?_ (Runs.assign rfl) ?_; rfl; rfl) | (refine WL.val ?_ ?_ (Runs.extract rfl rfl) ?_; rfl; rfl) | (refine WL.val ?_ ?_ (Runs.nilCheck rfl) ?_; rfl; rfl) | (refine WL.val ?_ ?_ (Runs.pickT rfl rfl) ?_; rfl; rfl) | (refine WL.val ?_ ?_ (Runs.pickF rfl rfl) ?_; rfl; rfl) | (refine WL.val ?_ ?_ (Runs.len rfl sl22) ?_; rfl; rfl) | (refine WL.val ?_ ?_ (Runs.len rfl sl23) ?_; rfl; rfl) | (refine WL.val ?_ ?_ (Runs.len rfl sl27) ?_; rfl; rfl) | (refine WL.val ?_ ?_ (Runs.len rfl sl28) ?_; rfl; rfl) | (refine WL.val ?_ ?_ (Runs.len rfl sl39) ?_; rfl; rfl) | (refine WL.val ?_ ?_ (Runs.len rfl sl64) ?_; rfl; rfl) | (refine WL.val ?_ ?_ (Runs.len rfl sl68) ?_; rfl; rfl) | (refine WL.val ?_ ?_ (Runs.len rfl sl86) ?_; rfl; rfl) | (refine WL.val ?_ ?_ (Runs.len rfl sl113) ?_; rfl; rfl) | (refine WL.pass ?_ ?_ ?_; rfl; rfl))
      by_cases hjl : j < F.length
      case neg =>
        obtain ⟨k, hk, ek'⟩ := List.getElem_of_mem htF
        exact absurd ek' (hno k F[k] (by omega) (List.getElem?_eq_getElem hk))
      refine WL.val rfl rfl (Runs.lss rfl rfl (declt hjl)) ?_
      refine WL.nil ?_
      repeat (first | refine AtExit.thenRet ?_ | refine AtExit.thenExit ?_ | refine AtExit.blockRet ?_ | refine AtExit.blockEnd ?_ | refine AtExit.blockExit ?_ | (refine AtExit.blockPast ?_ ?_; rfl))
      refine AtExit.go ?_
      refine WC.condT rfl ?_
      refine WC.skip ?_
      repeat (first | refine AtExit.thenRet ?_ | refine AtExit.thenExit ?_ | refine AtExit.blockRet ?_ | refine AtExit.blockEnd ?_ | refine AtExit.blockExit ?_ | (refine AtExit.blockPast ?_ ?_; rfl))
      refine AtExit.go ?_
      obtain ⟨f, hf⟩ : ∃ f, F[j]? = some f := ⟨_, List.getElem?_eq_getElem hjl⟩
      have hbd : Below w16.heap.size w16 w16.drew := below_drawn _ _ _
      have bq : ∀ wq, Below w16.heap.size w16 wq → Below w15.heap.size w15 wq := fun wq hb => b16.trans (hb.mono b16.size)
      have pq' : ∀ wq, Below w16.heap.size w16 wq → Below w13.heap.size w13 wq := fun wq hb => b15.trans ((bq wq hb).mono b15.size)
      refine WC.cut (α := Unit) (fun _ => [(8, pv C), (15, .slice (some ⟨gf, 0, none⟩) F.length cf), (34, .slice (some ⟨gm, 0, none⟩) F.length F.length), (35, .int .i64 (i : Int)), (36, .bool false), (37, .int .i64 (j : Int))])
        (fun _ w' => Below w15.heap.size w15 w' ∧ f ≠ t) ?_ ?_
      case refine_2 =>
        rintro _ w17 ⟨b17, hft⟩
        refine WC.region ?_
        repeat (first | (refine WL.val ?_ ?_ (Runs.move rfl) ?_; rfl; rfl) | (refine WL.val ?_ ?_ (Runs.assign rfl) ?_; rfl; rfl) | (refine WL.val ?_ ?_ (Runs.extract rfl rfl) ?_; rfl; rfl) | (refine WL.val ?_ ?_ (Runs.nilCheck rfl) ?_; rfl; rfl) | (refine WL.val ?_ ?_ (Runs.pickT rfl rfl) ?_; rfl; rfl) | (refine WL.val ?_ ?_ (Runs.pickF rfl rfl) ?_; rfl; rfl) | (refine WL.val ?_ ?_ (Runs.len rfl sl22) ?_; rfl; rfl) | (refine WL.val ?_ ?_ (Runs.len rfl sl23) ?_; rfl; rfl) | (refine WL.val ?_ ?_ (Runs.len rfl sl27) ?_; rfl; rfl) | (refine WL.val ?_ ?_ (Runs.len rfl sl28) ?_; rfl; rfl) | (refine WL.val ?_ ?_ (Runs.len rfl sl39) ?_; rfl; rfl) | (refine WL.val ?_ ?_ (Runs.len rfl sl64) ?_; rfl; rfl) | (refine WL.val ?_ ?_ (Runs.len rfl sl68) ?_; rfl; rfl) | (refine WL.val ?_ ?_ (Runs.len rfl sl86) ?_; rfl; rfl) | (refine WL.val ?_ ?_ (Runs.len rfl sl113) ?_; rfl; rfl) | (refine WL.pass ?_ ?_ ?_; rfl; rfl))
        refine WL.val rfl rfl (Runs.add rfl rfl (r := ((j + 1 : Nat) : Int)) (wI (by omega) (by omega) (by omega))) ?_
        repeat (first | (refine WL.val ?_ ?_ (Runs.move rfl) ?_; rfl; rfl) | (refine WL.val ?_ ?_ (Runs.assign rfl) ?_; rfl; rfl) | (refine WL.val ?_ ?_ (Runs.extract rfl rfl) ?_; rfl; rfl) | (refine WL.val ?_ ?_ (Runs.nilCheck rfl) ?_; rfl; rfl) | (refine WL.val ?_ ?_ (Runs.pickT rfl rfl) ?_; rfl; rfl) | (refine WL.val ?_ ?_ (Runs.pickF rfl rfl) ?_; rfl; rfl) | (refine WL.val ?_ ?_ (Runs.len rfl sl22) ?_; rfl; rfl) | (refine WL.val ?_ ?_ (Runs.len rfl sl23) ?_; rfl; rfl) | (refine WL.val ?_ ?_ (Runs.len rfl sl27) ?_; rfl; rfl) | (refine WL.val ?_ ?_ (Runs.len rfl sl28) ?_; rfl; rfl) | (refine WL.val ?_ ?_ (Runs.len rfl sl39) ?_; rfl; rfl) | (refine WL.val ?_ ?_ (Runs.len rfl sl64) ?_; rfl; rfl) | (refine WL.val ?_ ?_ (Runs.len rfl sl68) ?_; rfl; rfl) | (refine WL.val ?_ ?_ (Runs.len rfl sl86) ?_; rfl; rfl) | (refine WL.val ?_ ?_ (Runs.len rfl sl113) ?_; rfl; rfl) | (refine WL.pass ?_ ?_ ?_; rfl; rfl))
        refine WL.nil ?_
        repeat (first | refine AtExit.thenRet ?_ | refine AtExit.thenExit ?_ | refine AtExit.blockRet ?_ | refine AtExit.blockEnd ?_ | refine AtExit.blockExit ?_ | (refine AtExit.blockPast ?_ ?_; rfl))
        refine AtExit.inv fun av hv => ⟨j + 1, hv.sub (by repeat (first | exact Sub.nil _ | refine Sub.cons rfl ?_)), ⟨b17, fun j' f' hj' hf' => ?_⟩, by show F.length - (j + 1) < F.length - j; omega⟩
        rcases lt_or hj' with h1 | h1
        · exact hno j' f' h1 hf'
        · subst h1
          rw [hf] at hf'
          cases hf'
          exact hft
      refine WC.block ?_
      refine WC.seq (WC.quiet (fun wq => Below w16.heap.size w16 wq) mixed (by kernel_rfl) hbd ?_)
      repeat (first | (refine QL.val ?_ ?_ (fun wq hC => Runs.move rfl) ?_; rfl; rfl) | (refine QL.val ?_ ?_ (fun wq hC => Runs.assign rfl) ?_; rfl; rfl) | (refine QL.val ?_ ?_ (fun wq hC => Runs.extract rfl rfl) ?_; rfl; rfl) | (refine QL.val ?_ ?_ (fun wq hC => Runs.nilCheck rfl) ?_; rfl; rfl) | (refine QL.val ?_ ?_ (fun wq hC => Runs.pickT rfl rfl) ?_; rfl; rfl) | (refine QL.val ?_ ?_ (fun wq hC => Runs.pickF rfl rfl) ?_; rfl; rfl) | (refine QL.val ?_ ?_ (fun wq hC => Runs.len rfl sl22) ?_; rfl; rfl) | (refine QL.val ?_ ?_ (fun wq hC => Runs.len rfl sl23) ?_; rfl; rfl) | (refine QL.val ?_ ?_ (fun wq hC => Runs.len rfl sl27) ?_; rfl; rfl) | (refine QL.val ?_ ?_ (fun wq hC => Runs.len rfl sl28) ?_; rfl; rfl) | (refine QL.val ?_ ?_ (fun wq hC => Runs.len rfl sl39) ?_; rfl; rfl) | (refine QL.val ?_ ?_ (fun wq hC => Runs.len rfl sl64) ?_; rfl; rfl) | (refine QL.val ?_ ?_ (fun wq hC => Runs.len rfl sl68) ?_; rfl; rfl) | (refine QL.val ?_ ?_ (fun wq hC => Runs.len rfl sl86) ?_; rfl; rfl) | (refine QL.val ?_ ?_ (fun wq hC => Runs.len rfl sl113) ?_; rfl; rfl) | (refine QL.pass ?_ ?_ ?_; rfl; rfl))
      refine QL.val rfl rfl (fun wq hC => Runs.idx rfl rfl Yba.underlying68 sz4 rfl hjl) ?_
      rcases f15.at hf with ⟨hu, hm⟩ | ⟨hu, hm⟩
      · refine QL.val rfl rfl (fun wq hC => Runs.load rfl na4 (v := .bool true) ((r15.below (bq wq hC)).cell bC_len hu (j := 0) rfl)) ?_
        refine QL.val rfl rfl (fun wq hC => Runs.not rfl) ?_
        repeat (first | (refine QL.val ?_ ?_ (fun wq hC => Runs.move rfl) ?_; rfl; rfl) | (refine QL.val ?_ ?_ (fun wq hC => Runs.assign rfl) ?_; rfl; rfl) | (refine QL.val ?_ ?_ (fun wq hC => Runs.extract rfl rfl) ?_; rfl; rfl) | (refine QL.val ?_ ?_ (fun wq hC => Runs.nilCheck rfl) ?_; rfl; rfl) | (refine QL.val ?_ ?_ (fun wq hC => Runs.pickT rfl rfl) ?_; rfl; rfl) | (refine QL.val ?_ ?_ (fun wq hC => Runs.pickF rfl rfl) ?_; rfl; rfl) | (refine QL.val ?_ ?_ (fun wq hC => Runs.len rfl sl22) ?_; rfl; rfl) | (refine QL.val ?_ ?_ (fun wq hC => Runs.len rfl sl23) ?_; rfl; rfl) | (refine QL.val ?_ ?_ (fun wq hC => Runs.len rfl sl27) ?_; rfl; rfl) | (refine QL.val ?_ ?_ (fun wq hC => Runs.len rfl sl28) ?_; rfl; rfl) | (refine QL.val ?_ ?_ (fun wq hC => Runs.len rfl sl39) ?_; rfl; rfl) | (refine QL.val ?_ ?_ (fun wq hC => Runs.len rfl sl64) ?_; rfl; rfl) | (refine QL.val ?_ ?_ (fun wq hC => Runs.len rfl sl68) ?_; rfl; rfl) | (refine QL.val ?_ ?_ (fun wq hC => Runs.len rfl sl86) ?_; rfl; rfl) | (refine QL.val ?_ ?_ (fun wq hC => Runs.len rfl sl113) ?_; rfl; rfl) | (refine QL.pass ?_ ?_ ?_; rfl; rfl))
        refine QL.nil fun wq hC => ?_
        repeat (first | refine AtExit.thenRet ?_ | refine AtExit.thenExit ?_ | refine AtExit.blockRet ?_ | refine AtExit.blockEnd ?_ | refine AtExit.blockExit ?_ | (refine AtExit.blockPast ?_ ?_; rfl))
        refine AtExit.go ?_
        refine WC.condF rfl ?_
        refine WC.skip ?_
        repeat (first | refine AtExit.thenRet ?_ | refine AtExit.thenExit ?_ | refine AtExit.blockRet ?_ | refine AtExit.blockEnd ?_ | refine AtExit.blockExit ?_ | (refine AtExit.blockPast ?_ ?_; rfl))
        refine AtExit.inv fun av hv => ⟨(), hv.sub (by repeat (first | exact Sub.nil _ | refine Sub.cons rfl ?_)), bq wq hC, fun e => htn (e ▸ hm)⟩
      obtain ⟨k, hk, ek'⟩ := List.getElem_of_mem (P13.pm.mem_iff.2 (List.mem_of_getElem? hf))
      have hfk : ts'[k]? = some f := by rw [List.getElem?_eq_getElem hk, ek']
      refine QL.val rfl rfl (fun wq hC => Runs.load rfl na4 (v := .bool false) ((r15.below (bq wq hC)).cell bC_len hu (j := 0) rfl)) ?_
      refine QL.val rfl rfl (fun wq hC => Runs.not rfl) ?_
      repeat (first | (refine QL.val ?_ ?_ (fun wq hC => Runs.move rfl) ?_; rfl; rfl) | (refine QL.val ?_ ?_ (fun wq hC => Runs.assign rfl) ?_; rfl; rfl) | (refine QL.val ?_ ?_ (fun wq hC => Runs.extract rfl rfl) ?_; rfl; rfl) | (refine QL.val ?_ ?_ (fun wq hC => Runs.nilCheck rfl) ?_; rfl; rfl) | (refine QL.val ?_ ?_ (fun wq hC => Runs.pickT rfl rfl) ?_; rfl; rfl) | (refine QL.val ?_ ?_ (fun wq hC => Runs.pickF rfl rfl) ?_; rfl; rfl) | (refine QL.val ?_ ?_ (fun wq hC => Runs.len rfl sl22) ?_; rfl; rfl) | (refine QL.val ?_ ?_ (fun wq hC => Runs.len rfl sl23) ?_; rfl; rfl) | (refine QL.val ?_ ?_ (fun wq hC => Runs.len rfl sl27) ?_; rfl; rfl) | (refine QL.val ?_ ?_ (fun wq hC => Runs.len rfl sl28) ?_; rfl; rfl) | (refine QL.val ?_ ?_ (fun wq hC => Runs.len rfl sl39) ?_; rfl; rfl) | (refine QL.val ?_ ?_ (fun wq hC => Runs.len rfl sl64) ?_; rfl; rfl) | (refine QL.val ?_ ?_ (fun wq hC => Runs.len rfl sl68) ?_; rfl; rfl) | (refine QL.val ?_ ?_ (fun wq hC => Runs.len rfl sl86) ?_; rfl; rfl) | (refine QL.val ?_ ?_ (fun wq hC => Runs.len rfl sl113) ?_; rfl; rfl) | (refine QL.pass ?_ ?_ ?_; rfl; rfl))
      refine QL.val rfl rfl (fun wq hC => Runs.idx rfl rfl Yba.underlying27 sz42 rfl hjl) ?_
      refine QL.val rfl rfl (fun wq hC => Runs.load rfl na42 (v := pv f) ((rF.below (pq' wq hC)).cell fC_len hf (j := 0) rfl)) ?_
      repeat (first | (refine QL.val ?_ ?_ (fun wq hC => Runs.move rfl) ?_; rfl; rfl) | (refine QL.val ?_ ?_ (fun wq hC => Runs.assign rfl) ?_; rfl; rfl) | (refine QL.val ?_ ?_ (fun wq hC => Runs.extract rfl rfl) ?_; rfl; rfl) | (refine QL.val ?_ ?_ (fun wq hC => Runs.nilCheck rfl) ?_; rfl; rfl) | (refine QL.val ?_ ?_ (fun wq hC => Runs.pickT rfl rfl) ?_; rfl; rfl) | (refine QL.val ?_ ?_ (fun wq hC => Runs.pickF rfl rfl) ?_; rfl; rfl) | (refine QL.val ?_ ?_ (fun wq hC => Runs.len rfl sl22) ?_; rfl; rfl) | (refine QL.val ?_ ?_ (fun wq hC => Runs.len rfl sl23) ?_; rfl; rfl) | (refine QL.val ?_ ?_ (fun wq hC => Runs.len rfl sl27) ?_; rfl; rfl) | (refine QL.val ?_ ?_ (fun wq hC => Runs.len rfl sl28) ?_; rfl; rfl) | (refine QL.val ?_ ?_ (fun wq hC => Runs.len rfl sl39) ?_; rfl; rfl) | (refine QL.val ?_ ?_ (fun wq hC => Runs.len rfl sl64) ?_; rfl; rfl) | (refine QL.val ?_ ?_ (fun wq hC => Runs.len rfl sl68) ?_; rfl; rfl) | (refine QL.val ?_ ?_ (fun wq hC => Runs.len rfl sl86) ?_; rfl; rfl) | (refine QL.val ?_ ?_ (fun wq hC => Runs.len rfl sl113) ?_; rfl; rfl) | (refine QL.pass ?_ ?_ ?_; rfl; rfl))
      refine QL.val rfl rfl (fun wq hC => Runs.fld rfl fl30_1) ?_
      refine QL.val rfl rfl (fun wq hC => Runs.load rfl na28 (v := .slice (some ⟨gq, 0, none⟩) ts'.length cq) (P13.below (pq' wq hC)).hq.c1) ?_
      repeat (first | (refine QL.val ?_ ?_ (fun wq hC => Runs.move rfl) ?_; rfl; rfl) | (refine QL.val ?_ ?_ (fun wq hC => Runs.assign rfl) ?_; rfl; rfl) | (refine QL.val ?_ ?_ (fun wq hC => Runs.extract rfl rfl) ?_; rfl; rfl) | (refine QL.val ?_ ?_ (fun wq hC => Runs.nilCheck rfl) ?_; rfl; rfl) | (refine QL.val ?_ ?_ (fun wq hC => Runs.pickT rfl rfl) ?_; rfl; rfl) | (refine QL.val ?_ ?_ (fun wq hC => Runs.pickF rfl rfl) ?_; rfl; rfl) | (refine QL.val ?_ ?_ (fun wq hC => Runs.len rfl sl22) ?_; rfl; rfl) | (refine QL.val ?_ ?_ (fun wq hC => Runs.len rfl sl23) ?_; rfl; rfl) | (refine QL.val ?_ ?_ (fun wq hC => Runs.len rfl sl27) ?_; rfl; rfl) | (refine QL.val ?_ ?_ (fun wq hC => Runs.len rfl sl28) ?_; rfl; rfl) | (refine QL.val ?_ ?_ (fun wq hC => Runs.len rfl sl39) ?_; rfl; rfl) | (refine QL.val ?_ ?_ (fun wq hC => Runs.len rfl sl64) ?_; rfl; rfl) | (refine QL.val ?_ ?_ (fun wq hC => Runs.len rfl sl68) ?_; rfl; rfl) | (refine QL.val ?_ ?_ (fun wq hC => Runs.len rfl sl86) ?_; rfl; rfl) | (refine QL.val ?_ ?_ (fun wq hC => Runs.len rfl sl113) ?_; rfl; rfl) | (refine QL.pass ?_ ?_ ?_; rfl; rfl))
      refine QL.val rfl rfl (fun wq hC => Runs.idx1 rfl rfl Yba.underlying28 sz42 rfl hil) ?_
      refine QL.val rfl rfl (fun wq hC => Runs.load rfl na42 (v := pv t) (own_cell (P13.below (pq' wq hC)).hq.own (get_pv ht))) ?_
      refine QL.val rfl rfl (fun wq hC => Runs.eql42 rfl rfl ((P13.below (pq' wq hC)).hq.tim k f hfk) ((P13.below (pq' wq hC)).hq.tim i t ht)) ?_
      by_cases hft : f = t
      · rw [decide_eq_true hft]
        subst hft
        repeat (first | (refine QL.val ?_ ?_ (fun wq hC => Runs.move rfl) ?_; rfl; rfl) | (refine QL.val ?_ ?_ (fun wq hC => Runs.assign rfl) ?_; rfl; rfl) | (refine QL.val ?_ ?_ (fun wq hC => Runs.extract rfl rfl) ?_; rfl; rfl) | (refine QL.val ?_ ?_ (fun wq hC => Runs.nilCheck rfl) ?_; rfl; rfl) | (refine QL.val ?_ ?_ (fun wq hC => Runs.pickT rfl rfl) ?_; rfl; rfl) | (refine QL.val ?_ ?_ (fun wq hC => Runs.pickF rfl rfl) ?_; rfl; rfl) | (refine QL.val ?_ ?_ (fun wq hC => Runs.len rfl sl22) ?_; rfl; rfl) | (refine QL.val ?_ ?_ (fun wq hC => Runs.len rfl sl23) ?_; rfl; rfl) | (refine QL.val ?_ ?_ (fun wq hC => Runs.len rfl sl27) ?_; rfl; rfl) | (refine QL.val ?_ ?_ (fun wq hC => Runs.len rfl sl28) ?_; rfl; rfl) | (refine QL.val ?_ ?_ (fun wq hC => Runs.len rfl sl39) ?_; rfl; rfl) | (refine QL.val ?_ ?_ (fun wq hC => Runs.len rfl sl64) ?_; rfl; rfl) | (refine QL.val ?_ ?_ (fun wq hC => Runs.len rfl sl68) ?_; rfl; rfl) | (refine QL.val ?_ ?_ (fun wq hC => Runs.len rfl sl86) ?_; rfl; rfl) | (refine QL.val ?_ ?_ (fun wq hC => Runs.len rfl sl113) ?_; rfl; rfl) | (refine QL.pass ?_ ?_ ?_; rfl; rfl))
        refine QL.nil fun wq hC => ?_
        repeat (first | refine AtExit.thenRet ?_ | refine AtExit.thenExit ?_ | refine AtExit.blockRet ?_ | refine AtExit.blockEnd ?_ | refine AtExit.blockExit ?_ | (refine AtExit.blockPast ?_ ?_; rfl))
        refine AtExit.go ?_
        refine WC.condT rfl ?_
        have hul : j < u.length := by rw [f15.1]; exact hjl
        have r17 := r15.below (bq wq hC)
        have b17 := pq' wq hC
        refine WC.seq (WC.region ?_)
        repeat (first | (refine WL.val ?_ ?_ (Runs.move rfl) ?_; rfl; rfl) | (refine WL.val ?_ ?_ (Runs.assign rfl) ?_; rfl; rfl) | (refine WL.val ?_ ?_ (Runs.extract rfl rfl) ?_; rfl; rfl) | (refine WL.val ?_ ?_ (Runs.nilCheck rfl) ?_; rfl; rfl) | (refine WL.val ?_ ?_ (Runs.pickT rfl rfl) ?_; rfl; rfl) | (refine WL.val ?_ ?_ (Runs.pickF rfl rfl) ?_; rfl; rfl) | (refine WL.val ?_ ?_ (Runs.len rfl sl22) ?_; rfl; rfl) | (refine WL.val ?_ ?_ (Runs.len rfl sl23) ?_; rfl; rfl) | (refine WL.val ?_ ?_ (Runs.len rfl sl27) ?_; rfl; rfl) | (refine WL.val ?_ ?_ (Runs.len rfl sl28) ?_; rfl; rfl) | (refine WL.val ?_ ?_ (Runs.len rfl sl39) ?_; rfl; rfl) | (refine WL.val ?_ ?_ (Runs.len rfl sl64) ?_; rfl; rfl) | (refine WL.val ?_ ?_ (Runs.len rfl sl68) ?_; rfl; rfl) | (refine WL.val ?_ ?_ (Runs.len rfl sl86) ?_; rfl; rfl) | (refine WL.val ?_ ?_ (Runs.len rfl sl113) ?_; rfl; rfl) | (refine WL.pass ?_ ?_ ?_; rfl; rfl))
        refine WL.val rfl rfl (Runs.idx rfl rfl Yba.underlying68 sz4 rfl hjl) ?_
        refine WL.skip rfl (RunsS.store rfl rfl rfl sz4 (u := .bool u[j]) (r17.cell bC_len (List.getElem?_eq_getElem hul) (j := 0) rfl) (r17.frozen _)) ?_
        refine WL.nil ?_
        repeat (first | refine AtExit.thenRet ?_ | refine AtExit.thenExit ?_ | refine AtExit.blockRet ?_ | refine AtExit.blockEnd ?_ | refine AtExit.blockExit ?_ | (refine AtExit.blockPast ?_ ?_; rfl))
        refine AtExit.go ?_
        have r18 := r17.put bC_len hul true
        have g18 : Chg wq (wq.setCells gm (0 + j * 1) (bC true)) (fun k => k = gm) := chg_setCells (m := fun k => k = gm) gm rfl _ _ _
        change WC _ _ _ _ _ (wq.setCells gm (0 + j * 1) (bC true))
        have b18 := b17.trans (g18.below (fun k hk e => by omega) b17.size)
        generalize wq.setCells gm (0 + j * 1) (bC true) = w18 at r18 g18 b18 ⊢
        refine WC.seq (WC.region ?_)
        repeat (first | (refine WL.val ?_ ?_ (Runs.move rfl) ?_; rfl; rfl) | (refine WL.val ?_ ?_ (Runs.assign rfl) ?_; rfl; rfl) | (refine WL.val ?_ ?_ (Runs.extract rfl rfl) ?_; rfl; rfl) | (refine WL.val ?_ ?_ (Runs.nilCheck rfl) ?_; rfl; rfl) | (refine WL.val ?_ ?_ (Runs.pickT rfl rfl) ?_; rfl; rfl) | (refine WL.val ?_ ?_ (Runs.pickF rfl rfl) ?_; rfl; rfl) | (refine WL.val ?_ ?_ (Runs.len rfl sl22) ?_; rfl; rfl) | (refine WL.val ?_ ?_ (Runs.len rfl sl23) ?_; rfl; rfl) | (refine WL.val ?_ ?_ (Runs.len rfl sl27) ?_; rfl; rfl) | (refine WL.val ?_ ?_ (Runs.len rfl sl28) ?_; rfl; rfl) | (refine WL.val ?_ ?_ (Runs.len rfl sl39) ?_; rfl; rfl) | (refine WL.val ?_ ?_ (Runs.len rfl sl64) ?_; rfl; rfl) | (refine WL.val ?_ ?_ (Runs.len rfl sl68) ?_; rfl; rfl) | (refine WL.val ?_ ?_ (Runs.len rfl sl86) ?_; rfl; rfl) | (refine WL.val ?_ ?_ (Runs.len rfl sl113) ?_; rfl; rfl) | (refine WL.pass ?_ ?_ ?_; rfl; rfl))
        refine WL.nil ?_
        repeat (first | refine AtExit.thenRet ?_ | refine AtExit.thenExit ?_ | refine AtExit.blockRet ?_ | refine AtExit.blockEnd ?_ | refine AtExit.blockExit ?_ | (refine AtExit.blockPast ?_ ?_; rfl))
        refine AtExit.go ?_
        refine WC.exit ?_
        repeat (first | refine AtExit.thenRet ?_ | refine AtExit.thenExit ?_ | refine AtExit.blockRet ?_ | refine AtExit.blockEnd ?_ | refine AtExit.blockExit ?_ | (refine AtExit.blockPast ?_ ?_; rfl))
        refine AtExit.inv fun av hv => ⟨u.set j true, hv.sub (by repeat (first | exact Sub.nil _ | refine Sub.cons rfl ?_)), b18, r18, f15.put hFn hf ht⟩
      · rw [decide_eq_false hft]
        repeat (first | (refine QL.val ?_ ?_ (fun wq hC => Runs.move rfl) ?_; rfl; rfl) | (refine QL.val ?_ ?_ (fun wq hC => Runs.assign rfl) ?_; rfl; rfl) | (refine QL.val ?_ ?_ (fun wq hC => Runs.extract rfl rfl) ?_; rfl; rfl) | (refine QL.val ?_ ?_ (fun wq hC => Runs.nilCheck rfl) ?_; rfl; rfl) | (refine QL.val ?_ ?_ (fun wq hC => Runs.pickT rfl rfl) ?_; rfl; rfl) | (refine QL.val ?_ ?_ (fun wq hC => Runs.pickF rfl rfl) ?_; rfl; rfl) | (refine QL.val ?_ ?_ (fun wq hC => Runs.len rfl sl22) ?_; rfl; rfl) | (refine QL.val ?_ ?_ (fun wq hC => Runs.len rfl sl23) ?_; rfl; rfl) | (refine QL.val ?_ ?_ (fun wq hC => Runs.len rfl sl27) ?_; rfl; rfl) | (refine QL.val ?_ ?_ (fun wq hC => Runs.len rfl sl28) ?_; rfl; rfl) | (refine QL.val ?_ ?_ (fun wq hC => Runs.len rfl sl39) ?_; rfl; rfl) | (refine QL.val ?_ ?_ (fun wq hC => Runs.len rfl sl64) ?_; rfl; rfl) | (refine QL.val ?_ ?_ (fun wq hC => Runs.len rfl sl68) ?_; rfl; rfl) | (refine QL.val ?_ ?_ (fun wq hC => Runs.len rfl sl86) ?_; rfl; rfl) | (refine QL.val ?_ ?_ (fun wq hC => Runs.len rfl sl113) ?_; rfl; rfl) | (refine QL.pass ?_ ?_ ?_; rfl; rfl))
        refine QL.nil fun wq hC => ?_
        repeat (first | refine AtExit.thenRet ?_ | refine AtExit.thenExit ?_ | refine AtExit.blockRet ?_ | refine AtExit.blockEnd ?_ | refine AtExit.blockExit ?_ | (refine AtExit.blockPast ?_ ?_; rfl))
        refine AtExit.go ?_
        refine WC.condF rfl ?_
        refine WC.skip ?_
        repeat (first | refine AtExit.thenRet ?_ | refine AtExit.thenExit ?_ | refine AtExit.blockRet ?_ | refine AtExit.blockEnd ?_ | refine AtExit.blockExit ?_ | (refine AtExit.blockPast ?_ ?_; rfl))
        refine AtExit.inv fun av hv => ⟨(), hv.sub (by repeat (first | exact Sub.nil _ | refine Sub.cons rfl ?_)), bq wq hC, hft⟩
    rintro u' w17 ⟨b17, r17, f17⟩
    refine WC.seq (WC.region ?_)
    repeat (first | (refine WL.val ?_ ?_ (Runs.move rfl) ?_; rfl; rfl) | (refine WL.val ?_ ?_ (Runs.assign rfl) ?_; rfl; rfl) | (refine WL.val ?_ ?_ (Runs.extract rfl rfl) ?_; rfl; rfl) | (refine WL.val ?_ ?_ (Runs.nilCheck rfl) ?_; rfl; rfl) | (refine WL.val ?_ ?_ (Runs.pickT rfl rfl) ?_; rfl; rfl) | (refine WL.val ?_ ?_ (Runs.pickF rfl rfl) ?_; rfl; rfl) | (refine WL.val ?_ ?_ (Runs.len rfl sl22) ?_; rfl; rfl) | (refine WL.val ?_ ?_ (Runs.len rfl sl23) ?_; rfl; rfl) | (refine WL.val ?_ ?_ (Runs.len rfl sl27) ?_; rfl; rfl) | (refine WL.val ?_ ?_ (Runs.len rfl sl28) ?_; rfl; rfl) | (refine WL.val ?_ ?_ (Runs.len rfl sl39) ?_; rfl; rfl) | (refine WL.val ?_ ?_ (Runs.len rfl sl64) ?_; rfl; rfl) | (refine WL.val ?_ ?_ (Runs.len rfl sl68) ?_; rfl; rfl) | (refine WL.val ?_ ?_ (Runs.len rfl sl86) ?_; rfl; rfl) | (refine WL.val ?_ ?_ (Runs.len rfl sl113) ?_; rfl; rfl) | (refine WL.pass ?_ ?_ ?_; rfl; rfl))
    refine WL.val rfl rfl (Runs.not rfl) ?_
    refine WL.nil ?_
    repeat (first | refine AtExit.thenRet ?_ | refine AtExit.thenExit ?_ | refine AtExit.blockRet ?_ | refine AtExit.blockEnd ?_ | refine AtExit.blockExit ?_ | (refine AtExit.blockPast ?_ ?_; rfl))
    refine AtExit.go ?_
    refine WC.condF rfl ?_
    refine WC.skip ?_
    repeat (first | refine AtExit.thenRet ?_ | refine AtExit.thenExit ?_ | refine AtExit.blockRet ?_ | refine AtExit.blockEnd ?_ | refine AtExit.blockExit ?_ | (refine AtExit.blockPast ?_ ?_; rfl))
    refine AtExit.go ?_
    refine WC.region ?_
    repeat (first | (refine WL.val ?_ ?_ (Runs.move rfl) ?_; rfl; rfl) | (refine WL.val ?_ ?_ (Runs.assign rfl) ?_; rfl; rfl) | (refine WL.val ?_ ?_ (Runs.extract rfl rfl) ?_; rfl; rfl) | (refine WL.val ?_ ?_ (Runs.nilCheck rfl) ?_; rfl; rfl) | (refine WL.val ?_ ?_ (Runs.pickT rfl rfl) ?_; rfl; rfl) | (refine WL.val ?_ ?_ (Runs.pickF rfl rfl) ?_; rfl; rfl) | (refine WL.val ?_ ?_ (Runs.len rfl sl22) ?_; rfl; rfl) | (refine WL.val ?_ ?_ (Runs.len rfl sl23) ?_; rfl; rfl) | (refine WL.val ?_ ?_ (Runs.len rfl sl27) ?_; rfl; rfl) | (refine WL.val ?_ ?_ (Runs.len rfl sl28) ?_; rfl; rfl) | (refine WL.val ?_ ?_ (Runs.len rfl sl39) ?_; rfl; rfl) | (refine WL.val ?_ ?_ (Runs.len rfl sl64) ?_; rfl; rfl) | (refine WL.val ?_ ?_ (Runs.len rfl sl68) ?_; rfl; rfl) | (refine WL.val ?_ ?_ (Runs.len rfl sl86) ?_; rfl; rfl) | (refine WL.val ?_ ?_ (Runs.len rfl sl113) ?_; rfl; rfl) | (refine WL.pass ?_ ?_ ?_; rfl; rfl))
    refine WL.val rfl rfl (Runs.add rfl rfl (r := ((i + 1 : Nat) : Int)) (wI (by omega) (by omega) (by omega))) ?_
    repeat (first | (refine WL.val ?_ ?_ (Runs.move rfl) ?_; rfl; rfl) | (refine WL.val ?_ ?_ (Runs.assign rfl) ?_; rfl; rfl) | (refine WL.val ?_ ?_ (Runs.extract rfl rfl) ?_; rfl; rfl) | (refine WL.val ?_ ?_ (Runs.nilCheck rfl) ?_; rfl; rfl) | (refine WL.val ?_ ?_ (Runs.pickT rfl rfl) ?_; rfl; rfl) | (refine WL.val ?_ ?_ (Runs.pickF rfl rfl) ?_; rfl; rfl) | (refine WL.val ?_ ?_ (Runs.len rfl sl22) ?_; rfl; rfl) | (refine WL.val ?_ ?_ (Runs.len rfl sl23) ?_; rfl; rfl) | (refine WL.val ?_ ?_ (Runs.len rfl sl27) ?_; rfl; rfl) | (refine WL.val ?_ ?_ (Runs.len rfl sl28) ?_; rfl; rfl) | (refine WL.val ?_ ?_ (Runs.len rfl sl39) ?_; rfl; rfl) | (refine WL.val ?_ ?_ (Runs.len rfl sl64) ?_; rfl; rfl) | (refine WL.val ?_ ?_ (Runs.len rfl sl68) ?_; rfl; rfl) | (refine WL.val ?_ ?_ (Runs.len rfl sl86) ?_; rfl; rfl) | (refine WL.val ?_ ?_ (Runs.len rfl sl113) ?_; rfl; rfl) | (refine WL.pass ?_ ?_ ?_; rfl; rfl))
    refine WL.nil ?_
    repeat (first | refine AtExit.thenRet ?_ | refine AtExit.thenExit ?_ | refine AtExit.blockRet ?_ | refine AtExit.blockEnd ?_ | refine AtExit.blockExit ?_ | (refine AtExit.blockPast ?_ ?_; rfl))
    refine AtExit.inv fun av hv => ⟨(i + 1, u'), hv.sub (by repeat (first | exact Sub.nil _ | refine Sub.cons rfl ?_)), ⟨by omega, b17, r17, f17⟩, by show F.length - (i + 1) < F.length - i; omega⟩
  rintro _ w15 b15
  refine WC.seq (WC.region ?_)
  repeat (first | (refine WL.val ?_ ?_ (Runs.move rfl) ?_; rfl; rfl) | (refine WL.val ?_ ?_ (Runs.assign rfl) ?_; rfl; rfl) | (refine WL.val ?_ ?_ (Runs.extract rfl rfl) ?_; rfl; rfl) | (refine WL.val ?_ ?_ (Runs.nilCheck rfl) ?_; rfl; rfl) | (refine WL.val ?_ ?_ (Runs.pickT rfl rfl) ?_; rfl; rfl) | (refine WL.val ?_ ?_ (Runs.pickF rfl rfl) ?_; rfl; rfl) | (refine WL.val ?_ ?_ (Runs.len rfl sl22) ?_; rfl; rfl) | (refine WL.val ?_ ?_ (Runs.len rfl sl23) ?_; rfl; rfl) | (refine WL.val ?_ ?_ (Runs.len rfl sl27) ?_; rfl; rfl) | (refine WL.val ?_ ?_ (Runs.len rfl sl28) ?_; rfl; rfl) | (refine WL.val ?_ ?_ (Runs.len rfl sl39) ?_; rfl; rfl) | (refine WL.val ?_ ?_ (Runs.len rfl sl64) ?_; rfl; rfl) | (refine WL.val ?_ ?_ (Runs.len rfl sl68) ?_; rfl; rfl) | (refine WL.val ?_ ?_ (Runs.len rfl sl86) ?_; rfl; rfl) | (refine WL.val ?_ ?_ (Runs.len rfl sl113) ?_; rfl; rfl) | (refine WL.pass ?_ ?_ ?_; rfl; rfl))
  refine WL.nil ?_
  repeat (first | refine AtExit.thenRet ?_ | refine AtExit.thenExit ?_ | refine AtExit.blockRet ?_ | refine AtExit.blockEnd ?_ | refine AtExit.blockExit ?_ | (refine AtExit.blockPast ?_ ?_; rfl))
  refine AtExit.go ?_
  refine WC.ret ?_
  repeat (first | refine AtExit.thenRet ?_ | refine AtExit.thenExit ?_ | refine AtExit.blockRet ?_ | refine AtExit.blockEnd ?_ | refine AtExit.blockExit ?_ | (refine AtExit.blockPast ?_ ?_; rfl))
  exact post1 rfl rfl ⟨rfl, P13.bel.trans (b15.mono P13.bel.size)⟩
end Go.Proofs.Ybulkgfdm
