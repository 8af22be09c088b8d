/- slices.SortFunc on at most nine keys. -/
import Derived.Test.YbulkgfdmRowsk
namespace Go.Proofs.Ybulkgfdm
open Go Go.Fr Go.RowKit

theorem kc_len (x : Nat) : (kc x).length = 6 := rfl

theorem Runs.indexS {n : Nat} {l : List (Nat × Value)} {w : World} {ty : TypeId} {x y : Operand} {s : ByteArray} {k : IntKind} {m N : Nat} (hx : ev l x = some (.string s)) (hy : ev l y = some (.int k (m : Int))) (hs : s.size = N) (hm : m < N) :
    Runs Yba.prog n l (.index 9 x y) ty w (.int .u8 ((s[m]?.getD 0).toNat : Int)) w := by
  refine ⟨fun c d p af g ha => ?_⟩
  obtain ⟨b, hb⟩ : ∃ b, s[m]? = some b := ⟨_, getElem?_pos s m (by rw [hs]; exact hm)⟩
  simp only [execOp, ha.ev hx, ha.ev hy, Instr.index, asIntOf, Sem.run_bind, Sem.run_pure, Result.andThen, run_underlying Yba.underlying9]
  have h0 : (0 : Int) ≤ (m : Int) := by omega
  simp [h0, hb]

set_option maxRecDepth 100000 in
theorem len64_any (m : Nat) (hm : m < 256) (w : World) : Calls Yba.prog 35 #[.int .u64 (m : Int)] w fun e w' => (∃ r, e = .returned (.int .i64 r)) ∧ w' = w := by
  refine calls_of Yba.func35 rfl Yba.ntmps35 rfl ?_
  refine WC.seq (WC.region ?_)
  repeat (first | (refine WL.val ?_ ?_ (Runs.move rfl) ?_; rfl; rfl) | (refine WL.val ?_ ?_ (Runs.assign rfl) ?_; rfl; rfl) | (refine WL.val ?_ ?_ (Runs.extract rfl rfl) ?_; rfl; rfl) | (refine WL.val ?_ ?_ (Runs.nilCheck rfl) ?_; rfl; rfl) | (refine WL.val ?_ ?_ (Runs.pickT rfl rfl) ?_; rfl; rfl) | (refine WL.val ?_ ?_ (Runs.pickF rfl rfl) ?_; rfl; rfl) | (refine WL.val ?_ ?_ (Runs.len rfl sl22) ?_; rfl; rfl) | (refine WL.val ?_ ?_ (Runs.len rfl sl23) ?_; rfl; rfl) | (refine WL.val ?_ ?_ (Runs.len rfl sl27) ?_; rfl; rfl) | (refine WL.val ?_ ?_ (Runs.len rfl sl28) ?_; rfl; rfl) | (refine WL.val ?_ ?_ (Runs.len rfl sl39) ?_; rfl; rfl) | (refine WL.val ?_ ?_ (Runs.len rfl sl64) ?_; rfl; rfl) | (refine WL.val ?_ ?_ (Runs.len rfl sl68) ?_; rfl; rfl) | (refine WL.val ?_ ?_ (Runs.len rfl sl86) ?_; rfl; rfl) | (refine WL.val ?_ ?_ (Runs.len rfl sl113) ?_; rfl; rfl) | (refine WL.pass ?_ ?_ ?_; rfl; rfl))
  refine WL.nil ?_
  repeat (first | refine AtExit.thenRet ?_ | refine AtExit.thenExit ?_ | refine AtExit.blockRet ?_ | refine AtExit.blockEnd ?_ | refine AtExit.blockExit ?_ | (refine AtExit.blockPast ?_ ?_; rfl))
  refine AtExit.go ?_
  refine WC.seq ?_
  refine WC.seq (WC.region ?_)
  repeat (first | (refine WL.val ?_ ?_ (Runs.move rfl) ?_; rfl; rfl) | (refine WL.val ?_ ?_ (Runs.assign rfl) ?_; rfl; rfl) | (refine WL.val ?_ ?_ (Runs.extract rfl rfl) ?_; rfl; rfl) | (refine WL.val ?_ ?_ (Runs.nilCheck rfl) ?_; rfl; rfl) | (refine WL.val ?_ ?_ (Runs.pickT rfl rfl) ?_; rfl; rfl) | (refine WL.val ?_ ?_ (Runs.pickF rfl rfl) ?_; rfl; rfl) | (refine WL.val ?_ ?_ (Runs.len rfl sl22) ?_; rfl; rfl) | (refine WL.val ?_ ?_ (Runs.len rfl sl23) ?_; rfl; rfl) | (refine WL.val ?_ ?_ (Runs.len rfl sl27) ?_; rfl; rfl) | (refine WL.val ?_ ?_ (Runs.len rfl sl28) ?_; rfl; rfl) | (refine WL.val ?_ ?_ (Runs.len rfl sl39) ?_; rfl; rfl) | (refine WL.val ?_ ?_ (Runs.len rfl sl64) ?_; rfl; rfl) | (refine WL.val ?_ ?_ (Runs.len rfl sl68) ?_; rfl; rfl) | (refine WL.val ?_ ?_ (Runs.len rfl sl86) ?_; rfl; rfl) | (refine WL.val ?_ ?_ (Runs.len rfl sl113) ?_; rfl; rfl) | (refine WL.pass ?_ ?_ ?_; rfl; rfl))
  refine WL.val rfl rfl (Runs.geq rfl rfl (r := false) (dfalse (by omega))) ?_
  refine WL.nil ?_
  repeat (first | refine AtExit.thenRet ?_ | refine AtExit.thenExit ?_ | refine AtExit.blockRet ?_ | refine AtExit.blockEnd ?_ | refine AtExit.blockExit ?_ | (refine AtExit.blockPast ?_ ?_; rfl))
  refine AtExit.go ?_
  refine WC.condF rfl ?_
  refine WC.skip ?_
  repeat (first | refine AtExit.thenRet ?_ | refine AtExit.thenExit ?_ | refine AtExit.blockRet ?_ | refine AtExit.blockEnd ?_ | refine AtExit.blockExit ?_ | (refine AtExit.blockPast ?_ ?_; rfl))
  refine AtExit.go ?_
  refine WC.seq ?_
  refine WC.seq (WC.region ?_)
  repeat (first | (refine WL.val ?_ ?_ (Runs.move rfl) ?_; rfl; rfl) | (refine WL.val ?_ ?_ (Runs.assign rfl) ?_; rfl; rfl) | (refine WL.val ?_ ?_ (Runs.extract rfl rfl) ?_; rfl; rfl) | (refine WL.val ?_ ?_ (Runs.nilCheck rfl) ?_; rfl; rfl) | (refine WL.val ?_ ?_ (Runs.pickT rfl rfl) ?_; rfl; rfl) | (refine WL.val ?_ ?_ (Runs.pickF rfl rfl) ?_; rfl; rfl) | (refine WL.val ?_ ?_ (Runs.len rfl sl22) ?_; rfl; rfl) | (refine WL.val ?_ ?_ (Runs.len rfl sl23) ?_; rfl; rfl) | (refine WL.val ?_ ?_ (Runs.len rfl sl27) ?_; rfl; rfl) | (refine WL.val ?_ ?_ (Runs.len rfl sl28) ?_; rfl; rfl) | (refine WL.val ?_ ?_ (Runs.len rfl sl39) ?_; rfl; rfl) | (refine WL.val ?_ ?_ (Runs.len rfl sl64) ?_; rfl; rfl) | (refine WL.val ?_ ?_ (Runs.len rfl sl68) ?_; rfl; rfl) | (refine WL.val ?_ ?_ (Runs.len rfl sl86) ?_; rfl; rfl) | (refine WL.val ?_ ?_ (Runs.len rfl sl113) ?_; rfl; rfl) | (refine WL.pass ?_ ?_ ?_; rfl; rfl))
  refine WL.val rfl rfl (Runs.geq rfl rfl (r := false) (dfalse (by omega))) ?_
  refine WL.nil ?_
  repeat (first | refine AtExit.thenRet ?_ | refine AtExit.thenExit ?_ | refine AtExit.blockRet ?_ | refine AtExit.blockEnd ?_ | refine AtExit.blockExit ?_ | (refine AtExit.blockPast ?_ ?_; rfl))
  refine AtExit.go ?_
  refine WC.condF rfl ?_
  refine WC.skip ?_
  repeat (first | refine AtExit.thenRet ?_ | refine AtExit.thenExit ?_ | refine AtExit.blockRet ?_ | refine AtExit.blockEnd ?_ | refine AtExit.blockExit ?_ | (refine AtExit.blockPast ?_ ?_; rfl))
  refine AtExit.go ?_
  refine WC.seq ?_
  refine WC.seq (WC.region ?_)
  repeat (first | (refine WL.val ?_ ?_ (Runs.move rfl) ?_; rfl; rfl) | (refine WL.val ?_ ?_ (Runs.assign rfl) ?_; rfl; rfl) | (refine WL.val ?_ ?_ (Runs.extract rfl rfl) ?_; rfl; rfl) | (refine WL.val ?_ ?_ (Runs.nilCheck rfl) ?_; rfl; rfl) | (refine WL.val ?_ ?_ (Runs.pickT rfl rfl) ?_; rfl; rfl) | (refine WL.val ?_ ?_ (Runs.pickF rfl rfl) ?_; rfl; rfl) | (refine WL.val ?_ ?_ (Runs.len rfl sl22) ?_; rfl; rfl) | (refine WL.val ?_ ?_ (Runs.len rfl sl23) ?_; rfl; rfl) | (refine WL.val ?_ ?_ (Runs.len rfl sl27) ?_; rfl; rfl) | (refine WL.val ?_ ?_ (Runs.len rfl sl28) ?_; rfl; rfl) | (refine WL.val ?_ ?_ (Runs.len rfl sl39) ?_; rfl; rfl) | (refine WL.val ?_ ?_ (Runs.len rfl sl64) ?_; rfl; rfl) | (refine WL.val ?_ ?_ (Runs.len rfl sl68) ?_; rfl; rfl) | (refine WL.val ?_ ?_ (Runs.len rfl sl86) ?_; rfl; rfl) | (refine WL.val ?_ ?_ (Runs.len rfl sl113) ?_; rfl; rfl) | (refine WL.pass ?_ ?_ ?_; rfl; rfl))
  refine WL.val rfl rfl (Runs.geq rfl rfl (r := false) (dfalse (by omega))) ?_
  refine WL.nil ?_
  repeat (first | refine AtExit.thenRet ?_ | refine AtExit.thenExit ?_ | refine AtExit.blockRet ?_ | refine AtExit.blockEnd ?_ | refine AtExit.blockExit ?_ | (refine AtExit.blockPast ?_ ?_; rfl))
  refine AtExit.go ?_
  refine WC.condF rfl ?_
  refine WC.skip ?_
  repeat (first | refine AtExit.thenRet ?_ | refine AtExit.thenExit ?_ | refine AtExit.blockRet ?_ | refine AtExit.blockEnd ?_ | refine AtExit.blockExit ?_ | (refine AtExit.blockPast ?_ ?_; rfl))
  refine AtExit.go ?_
  refine WC.seq (WC.region ?_)
  repeat (first | (refine WL.val ?_ ?_ (Runs.move rfl) ?_; rfl; rfl) | (refine WL.val ?_ ?_ (Runs.assign rfl) ?_; rfl; rfl) | (refine WL.val ?_ ?_ (Runs.extract rfl rfl) ?_; rfl; rfl) | (refine WL.val ?_ ?_ (Runs.nilCheck rfl) ?_; rfl; rfl) | (refine WL.val ?_ ?_ (Runs.pickT rfl rfl) ?_; rfl; rfl) | (refine WL.val ?_ ?_ (Runs.pickF rfl rfl) ?_; rfl; rfl) | (refine WL.val ?_ ?_ (Runs.len rfl sl22) ?_; rfl; rfl) | (refine WL.val ?_ ?_ (Runs.len rfl sl23) ?_; rfl; rfl) | (refine WL.val ?_ ?_ (Runs.len rfl sl27) ?_; rfl; rfl) | (refine WL.val ?_ ?_ (Runs.len rfl sl28) ?_; rfl; rfl) | (refine WL.val ?_ ?_ (Runs.len rfl sl39) ?_; rfl; rfl) | (refine WL.val ?_ ?_ (Runs.len rfl sl64) ?_; rfl; rfl) | (refine WL.val ?_ ?_ (Runs.len rfl sl68) ?_; rfl; rfl) | (refine WL.val ?_ ?_ (Runs.len rfl sl86) ?_; rfl; rfl) | (refine WL.val ?_ ?_ (Runs.len rfl sl113) ?_; rfl; rfl) | (refine WL.pass ?_ ?_ ?_; rfl; rfl))
  refine WL.val rfl rfl (Runs.conv rfl (by rw [Yba.underlying25]; rfl) Yba.underlying5 (r := (m : Int)) (by rw [IntKind.wrap_u8]; omega)) ?_
  refine WL.val rfl rfl (Runs.indexS rfl rfl rfl hm) ?_
  refine WL.val rfl rfl (Runs.conv rfl (by rw [Yba.underlying5]; rfl) Yba.underlying3 rfl) ?_
  refine WL.val rfl rfl (Runs.add rfl rfl rfl) ?_
  repeat (first | (refine WL.val ?_ ?_ (Runs.move rfl) ?_; rfl; rfl) | (refine WL.val ?_ ?_ (Runs.assign rfl) ?_; rfl; rfl) | (refine WL.val ?_ ?_ (Runs.extract rfl rfl) ?_; rfl; rfl) | (refine WL.val ?_ ?_ (Runs.nilCheck rfl) ?_; rfl; rfl) | (refine WL.val ?_ ?_ (Runs.pickT rfl rfl) ?_; rfl; rfl) | (refine WL.val ?_ ?_ (Runs.pickF rfl rfl) ?_; rfl; rfl) | (refine WL.val ?_ ?_ (Runs.len rfl sl22) ?_; rfl; rfl) | (refine WL.val ?_ ?_ (Runs.len rfl sl23) ?_; rfl; rfl) | (refine WL.val ?_ ?_ (Runs.len rfl sl27) ?_; rfl; rfl) | (refine WL.val ?_ ?_ (Runs.len rfl sl28) ?_; rfl; rfl) | (refine WL.val ?_ ?_ (Runs.len rfl sl39) ?_; rfl; rfl) | (refine WL.val ?_ ?_ (Runs.len rfl sl64) ?_; rfl; rfl) | (refine WL.val ?_ ?_ (Runs.len rfl sl68) ?_; rfl; rfl) | (refine WL.val ?_ ?_ (Runs.len rfl sl86) ?_; rfl; rfl) | (refine WL.val ?_ ?_ (Runs.len rfl sl113) ?_; rfl; rfl) | (refine WL.pass ?_ ?_ ?_; rfl; rfl))
  refine WL.nil ?_
  repeat (first | refine AtExit.thenRet ?_ | refine AtExit.thenExit ?_ | refine AtExit.blockRet ?_ | refine AtExit.blockEnd ?_ | refine AtExit.blockExit ?_ | (refine AtExit.blockPast ?_ ?_; rfl))
  refine AtExit.go ?_
  refine WC.ret ?_
  repeat (first | refine AtExit.thenRet ?_ | refine AtExit.thenExit ?_ | refine AtExit.blockRet ?_ | refine AtExit.blockEnd ?_ | refine AtExit.blockExit ?_ | (refine AtExit.blockPast ?_ ?_; rfl))
  exact post1 rfl rfl ⟨⟨_, rfl⟩, rfl⟩
theorem bitsLen_any (m : Nat) (hm : m < 256) (w : World) : Calls Yba.prog 21 #[.int .u64 (m : Int)] w fun e w' => (∃ r, e = .returned (.int .i64 r)) ∧ w' = w := by
  refine calls_of Yba.func21 rfl Yba.ntmps21 rfl ?_
  refine WC.seq (WC.region ?_)
  repeat (first | (refine WL.val ?_ ?_ (Runs.move rfl) ?_; rfl; rfl) | (refine WL.val ?_ ?_ (Runs.assign rfl) ?_; rfl; rfl) | (refine WL.val ?_ ?_ (Runs.extract rfl rfl) ?_; rfl; rfl) | (refine WL.val ?_ ?_ (Runs.nilCheck rfl) ?_; rfl; rfl) | (refine WL.val ?_ ?_ (Runs.pickT rfl rfl) ?_; rfl; rfl) | (refine WL.val ?_ ?_ (Runs.pickF rfl rfl) ?_; rfl; rfl) | (refine WL.val ?_ ?_ (Runs.len rfl sl22) ?_; rfl; rfl) | (refine WL.val ?_ ?_ (Runs.len rfl sl23) ?_; rfl; rfl) | (refine WL.val ?_ ?_ (Runs.len rfl sl27) ?_; rfl; rfl) | (refine WL.val ?_ ?_ (Runs.len rfl sl28) ?_; rfl; rfl) | (refine WL.val ?_ ?_ (Runs.len rfl sl39) ?_; rfl; rfl) | (refine WL.val ?_ ?_ (Runs.len rfl sl64) ?_; rfl; rfl) | (refine WL.val ?_ ?_ (Runs.len rfl sl68) ?_; rfl; rfl) | (refine WL.val ?_ ?_ (Runs.len rfl sl86) ?_; rfl; rfl) | (refine WL.val ?_ ?_ (Runs.len rfl sl113) ?_; rfl; rfl) | (refine WL.pass ?_ ?_ ?_; rfl; rfl))
  refine WL.nil ?_
  repeat (first | refine AtExit.thenRet ?_ | refine AtExit.thenExit ?_ | refine AtExit.blockRet ?_ | refine AtExit.blockEnd ?_ | refine AtExit.blockExit ?_ | (refine AtExit.blockPast ?_ ?_; rfl))
  refine AtExit.go ?_
  refine WC.seq (WC.condF rfl ?_)
  refine WC.skip ?_
  repeat (first | refine AtExit.thenRet ?_ | refine AtExit.thenExit ?_ | refine AtExit.blockRet ?_ | refine AtExit.blockEnd ?_ | refine AtExit.blockExit ?_ | (refine AtExit.blockPast ?_ ?_; rfl))
  refine AtExit.go ?_
  refine WC.seq (WC.region ?_)
  repeat (first | (refine WL.val ?_ ?_ (Runs.move rfl) ?_; rfl; rfl) | (refine WL.val ?_ ?_ (Runs.assign rfl) ?_; rfl; rfl) | (refine WL.val ?_ ?_ (Runs.extract rfl rfl) ?_; rfl; rfl) | (refine WL.val ?_ ?_ (Runs.nilCheck rfl) ?_; rfl; rfl) | (refine WL.val ?_ ?_ (Runs.pickT rfl rfl) ?_; rfl; rfl) | (refine WL.val ?_ ?_ (Runs.pickF rfl rfl) ?_; rfl; rfl) | (refine WL.val ?_ ?_ (Runs.len rfl sl22) ?_; rfl; rfl) | (refine WL.val ?_ ?_ (Runs.len rfl sl23) ?_; rfl; rfl) | (refine WL.val ?_ ?_ (Runs.len rfl sl27) ?_; rfl; rfl) | (refine WL.val ?_ ?_ (Runs.len rfl sl28) ?_; rfl; rfl) | (refine WL.val ?_ ?_ (Runs.len rfl sl39) ?_; rfl; rfl) | (refine WL.val ?_ ?_ (Runs.len rfl sl64) ?_; rfl; rfl) | (refine WL.val ?_ ?_ (Runs.len rfl sl68) ?_; rfl; rfl) | (refine WL.val ?_ ?_ (Runs.len rfl sl86) ?_; rfl; rfl) | (refine WL.val ?_ ?_ (Runs.len rfl sl113) ?_; rfl; rfl) | (refine WL.pass ?_ ?_ ?_; rfl; rfl))
  refine WL.call rfl rfl (RunsC.call rfl en35) (len64_any m hm w) ?_
  rintro e w1 ⟨⟨r, rfl⟩, rfl⟩
  refine ⟨_, rfl, ?_⟩
  repeat (first | (refine WL.val ?_ ?_ (Runs.move rfl) ?_; rfl; rfl) | (refine WL.val ?_ ?_ (Runs.assign rfl) ?_; rfl; rfl) | (refine WL.val ?_ ?_ (Runs.extract rfl rfl) ?_; rfl; rfl) | (refine WL.val ?_ ?_ (Runs.nilCheck rfl) ?_; rfl; rfl) | (refine WL.val ?_ ?_ (Runs.pickT rfl rfl) ?_; rfl; rfl) | (refine WL.val ?_ ?_ (Runs.pickF rfl rfl) ?_; rfl; rfl) | (refine WL.val ?_ ?_ (Runs.len rfl sl22) ?_; rfl; rfl) | (refine WL.val ?_ ?_ (Runs.len rfl sl23) ?_; rfl; rfl) | (refine WL.val ?_ ?_ (Runs.len rfl sl27) ?_; rfl; rfl) | (refine WL.val ?_ ?_ (Runs.len rfl sl28) ?_; rfl; rfl) | (refine WL.val ?_ ?_ (Runs.len rfl sl39) ?_; rfl; rfl) | (refine WL.val ?_ ?_ (Runs.len rfl sl64) ?_; rfl; rfl) | (refine WL.val ?_ ?_ (Runs.len rfl sl68) ?_; rfl; rfl) | (refine WL.val ?_ ?_ (Runs.len rfl sl86) ?_; rfl; rfl) | (refine WL.val ?_ ?_ (Runs.len rfl sl113) ?_; rfl; rfl) | (refine WL.pass ?_ ?_ ?_; rfl; rfl))
  refine WL.nil ?_
  repeat (first | refine AtExit.thenRet ?_ | refine AtExit.thenExit ?_ | refine AtExit.blockRet ?_ | refine AtExit.blockEnd ?_ | refine AtExit.blockExit ?_ | (refine AtExit.blockPast ?_ ?_; rfl))
  refine AtExit.go ?_
  refine WC.ret ?_
  repeat (first | refine AtExit.thenRet ?_ | refine AtExit.thenExit ?_ | refine AtExit.blockRet ?_ | refine AtExit.blockEnd ?_ | refine AtExit.blockExit ?_ | (refine AtExit.blockPast ?_ ?_; rfl))
  exact post1 rfl rfl ⟨⟨_, rfl⟩, rfl⟩

/-- What the comparing closure reads. -/
structure Cx (inf : Nat → TI) (bx U C mb : Nat) (M : MapL) (w : World) : Prop where
  box : w.heap[bx]? = some (.cells #[pv U] 34 (0, 0))
  ue : ∃ c, w.heap[U]? = some (.cells c 58 (0, 0)) ∧ c[130]? = some (.map (some mb)) ∧ c[0]? = some (pv C)
  map : MapAt w mb M
  K : AllK M
  tim : ∀ x t, lookM x M = some (some t) → ∃ i, TimerAt w t (inf t).due (inf t).start i (inf t).fire
theorem Cx.chg {inf : Nat → TI} {bx U C mb : Nat} {M : MapL} {w w' : World} (h : Cx inf bx U C mb M w) {m : Nat → Prop} (hc : Chg w w' m) (hm : ∀ k, m k → ∃ c, w.heap[k]? = some (.cells c 48 (0, 0))) : Cx inf bx U C mb M w' := by
  have no : ∀ {k : Nat} {o : Obj}, w.heap[k]? = some o → (∀ c, o ≠ .cells c 48 (0, 0)) → w'.heap[k]? = some o := fun {k o} hk ho => hc.heap (fun hmk => by
    obtain ⟨c, hcc⟩ := hm k hmk
    rw [hcc] at hk
    cases hk
    exact ho c rfl) hk
  obtain ⟨c, h1, h2, h3⟩ := h.ue
  refine ⟨no h.box (fun c e => by cases e), ⟨c, no h1 (fun c e => by cases e), h2, h3⟩, no h.map (fun c e => by cases e), h.K, fun x t ht => ?_⟩
  obtain ⟨i, hi⟩ := h.tim x t ht
  exact ⟨i, no hi (fun c e => by cases e)⟩
theorem Cx.below {inf : Nat → TI} {bx U C mb : Nat} {M : MapL} {w w' : World} (h : Cx inf bx U C mb M w) (hb : Below w.heap.size w w') : Cx inf bx U C mb M w' := h.chg (m := fun _ => False) (Chg.of_below hb) (fun _ hk => hk.elim)

def tmr (M : MapL) (x : Nat) : Nat := ((lookM x M).getD none).getD 0
theorem tmr_of {M : MapL} {x t : Nat} (h : lookM x M = some (some t)) : tmr M x = t := by unfold tmr; rw [h]; rfl
/-- By the due time, then by the start. -/
def kl (inf : Nat → TI) (M : MapL) (x y : Nat) : Prop := (inf (tmr M x)).due < (inf (tmr M y)).due ∨ ((inf (tmr M x)).due = (inf (tmr M y)).due ∧ (inf (tmr M x)).start < (inf (tmr M y)).start)

section
variable {inf : Nat → TI} {bx U C mb : Nat} {M : MapL}
theorem cmpK_any {w : World} (h : Cx inf bx U C mb M w) (x y tx ty : Nat) (hx : x < 9) (hy : y < 9) (hlx : lookM x M = some (some tx)) (hly : lookM y M = some (some ty)) :
    Calls Yba.prog 16 #[kv x, kv y, .pointer (some ⟨bx, 0, none⟩)] w fun e w' => e = .returned (.int .i64 (fo (inf tx).due (inf tx).start (inf ty).due (inf ty).start)) ∧ Below w.heap.size w w' := by
  refine calls_of Yba.func16 rfl Yba.ntmps16 rfl ?_
  refine WC.seq (WC.region ?_)
  refine WL.val rfl rfl (Runs.box rfl) ?_
  refine WL.val rfl rfl (Runs.box rfl) ?_
  repeat (first | (refine WL.val ?_ ?_ (Runs.move rfl) ?_; rfl; rfl) | (refine WL.val ?_ ?_ (Runs.assign rfl) ?_; rfl; rfl) | (refine WL.val ?_ ?_ (Runs.extract rfl rfl) ?_; rfl; rfl) | (refine WL.val ?_ ?_ (Runs.nilCheck rfl) ?_; rfl; rfl) | (refine WL.val ?_ ?_ (Runs.pickT rfl rfl) ?_; rfl; rfl) | (refine WL.val ?_ ?_ (Runs.pickF rfl rfl) ?_; rfl; rfl) | (refine WL.val ?_ ?_ (Runs.len rfl sl22) ?_; rfl; rfl) | (refine WL.val ?_ ?_ (Runs.len rfl sl23) ?_; rfl; rfl) | (refine WL.val ?_ ?_ (Runs.len rfl sl27) ?_; rfl; rfl) | (refine WL.val ?_ ?_ (Runs.len rfl sl28) ?_; rfl; rfl) | (refine WL.val ?_ ?_ (Runs.len rfl sl39) ?_; rfl; rfl) | (refine WL.val ?_ ?_ (Runs.len rfl sl64) ?_; rfl; rfl) | (refine WL.val ?_ ?_ (Runs.len rfl sl68) ?_; rfl; rfl) | (refine WL.val ?_ ?_ (Runs.len rfl sl86) ?_; rfl; rfl) | (refine WL.val ?_ ?_ (Runs.len rfl sl113) ?_; rfl; rfl) | (refine WL.pass ?_ ?_ ?_; rfl; rfl))
  refine WL.nil ?_
  repeat (first | refine AtExit.thenRet ?_ | refine AtExit.thenExit ?_ | refine AtExit.blockRet ?_ | refine AtExit.blockEnd ?_ | refine AtExit.blockExit ?_ | (refine AtExit.blockPast ?_ ?_; rfl))
  refine AtExit.go ?_
  have b1 := below_new w (.cells (kv x).cells 48) (Nat.le_refl _)
  have b2 := below_new (w.alloc (.cells (kv x).cells 48)) (.cells (kv y).cells 48) (Nat.le_refl _)
  have n1 : ((w.alloc (.cells (kv x).cells 48)).alloc (.cells (kv y).cells 48)).heap[w.heap.size]? = some (.cells (kv x).cells 48) := heap_old (heap_new w _)
  have n2 := heap_new (w.alloc (.cells (kv x).cells 48)) (.cells (kv y).cells 48)
  rw [size_new] at n2 ⊢
  have hb := Below.up b1 b2
  generalize (w.alloc _).alloc _ = w1 at n1 n2 hb ⊢
  generalize hS : w.heap.size = S at n1 n2 ⊢
  have hb0 : Below w1.heap.size w1 w1.drew := below_drawn _ _ _
  have h1 := (h.below hb).below hb0
  obtain ⟨c, u1, u2, _⟩ := h1.ue
  obtain ⟨ix, tx1⟩ := h1.tim x tx hlx
  obtain ⟨iy, ty1⟩ := h1.tim y ty hly
  refine WC.seq (WC.still 12 mixed (by kernel_rfl) ?_)
  refine SL.val rfl rfl (Runs.load rfl na34 (v := pv U) (by rw [cell_of h1.box]; rfl)) ?_
  refine SL.val rfl rfl (Runs.nilCheck rfl) ?_
  refine SL.val rfl rfl (Runs.fld rfl fl58_3) ?_
  refine SL.val rfl rfl (Runs.load rfl na56 (v := .map (some mb)) (by rw [cell_of u1]; exact u2)) ?_
  refine SL.val rfl rfl (Runs.loadAgg (cs := kc x) rfl na48 sz48 (fun j v hv => by rw [cell_of (show w1.drew.heap[S]? = _ from n1), Nat.zero_add]; exact (List.getElem?_toArray).trans hv)) ?_
  refine SL.val rfl rfl (Runs.lookup rfl rfl hx h1.K h1.map) ?_
  refine SL.val rfl rfl (Runs.load rfl na34 (v := pv U) (by rw [cell_of h1.box]; rfl)) ?_
  refine SL.val rfl rfl (Runs.nilCheck rfl) ?_
  refine SL.val rfl rfl (Runs.fld rfl fl58_3) ?_
  refine SL.val rfl rfl (Runs.load rfl na56 (v := .map (some mb)) (by rw [cell_of u1]; exact u2)) ?_
  refine SL.val rfl rfl (Runs.loadAgg (cs := kc y) rfl na48 sz48 (fun j v hv => by rw [cell_of (show w1.drew.heap[S + 1]? = _ from n2), Nat.zero_add]; exact (List.getElem?_toArray).trans hv)) ?_
  refine SL.val rfl rfl (Runs.lookup rfl rfl hy h1.K h1.map) ?_
  refine SL.nil ?_
  rw [hlx, hly]
  refine WL.call rfl rfl (RunsC.call rfl en17) (fire_any tx ty _ _ _ _ _ _ _ _ w1.drew tx1 ty1) ?_
  rintro e w2 ⟨rfl, hb2⟩
  refine ⟨_, rfl, ?_⟩
  repeat (first | (refine WL.val ?_ ?_ (Runs.move rfl) ?_; rfl; rfl) | (refine WL.val ?_ ?_ (Runs.assign rfl) ?_; rfl; rfl) | (refine WL.val ?_ ?_ (Runs.extract rfl rfl) ?_; rfl; rfl) | (refine WL.val ?_ ?_ (Runs.nilCheck rfl) ?_; rfl; rfl) | (refine WL.val ?_ ?_ (Runs.pickT rfl rfl) ?_; rfl; rfl) | (refine WL.val ?_ ?_ (Runs.pickF rfl rfl) ?_; rfl; rfl) | (refine WL.val ?_ ?_ (Runs.len rfl sl22) ?_; rfl; rfl) | (refine WL.val ?_ ?_ (Runs.len rfl sl23) ?_; rfl; rfl) | (refine WL.val ?_ ?_ (Runs.len rfl sl27) ?_; rfl; rfl) | (refine WL.val ?_ ?_ (Runs.len rfl sl28) ?_; rfl; rfl) | (refine WL.val ?_ ?_ (Runs.len rfl sl39) ?_; rfl; rfl) | (refine WL.val ?_ ?_ (Runs.len rfl sl64) ?_; rfl; rfl) | (refine WL.val ?_ ?_ (Runs.len rfl sl68) ?_; rfl; rfl) | (refine WL.val ?_ ?_ (Runs.len rfl sl86) ?_; rfl; rfl) | (refine WL.val ?_ ?_ (Runs.len rfl sl113) ?_; rfl; rfl) | (refine WL.pass ?_ ?_ ?_; rfl; rfl))
  refine WL.nil ?_
  repeat (first | refine AtExit.thenRet ?_ | refine AtExit.thenExit ?_ | refine AtExit.blockRet ?_ | refine AtExit.blockEnd ?_ | refine AtExit.blockExit ?_ | (refine AtExit.blockPast ?_ ?_; rfl))
  refine AtExit.go ?_
  refine WC.ret ?_
  repeat (first | refine AtExit.thenRet ?_ | refine AtExit.thenExit ?_ | refine AtExit.blockRet ?_ | refine AtExit.blockEnd ?_ | refine AtExit.blockExit ?_ | (refine AtExit.blockPast ?_ ?_; rfl))
  exact post1 rfl rfl ⟨rfl, by rw [← hS]; exact Below.up hb (Below.up hb0 hb2)⟩
end
end Go.Proofs.Ybulkgfdm
