/- SwitchOff. -/
import Derived.Test.YbulkgfdmRng
namespace Go.Proofs.Ybulkgfdm
open Go Go.Fr Go.RowKit

theorem postCell {P : Program} {fn : Func} {R : Ending → World → Prop} {n : Nat} {l : List (Nat × Value)} {w : World} {t : Tmp} {ty e : TypeId} {g : Nat} {cs : Array Value} {d : TypeDesc} (hr : fn.results = #[.cell t ty]) (hv : lk l t = some (.pointer (some ⟨g, 0, none⟩)))
    (hg : w.heap[g]? = some (.cells cs e (0, 0))) (hu : P.underlying ty = some d) (hd : d.isRow = true) (hi : sizeB P ty = some cs.size) (h : R (.returned (.agg cs)) w) : AtExit (bodyPost P fn R) .ret n l w := by
  refine ⟨fun a ha => bodyPost_ret (results_cell_row hr _ w g e cs (0, 0) d ?_ hg hu (by cases d <;> first | rfl | exact hd) hi) ha.dfr h⟩
  rw [Array.getD_eq_getD_getElem?, ha.slot t _ hv]; rfl
theorem built55 : Yba.prog.built 55 [] = some S0.toArray := by kernel_rfl
theorem S0_one : S0.toArray.all (·.oneCell') = true := by kernel_rfl
theorem S0_sz : sizeB Yba.prog 55 = some S0.toArray.size := by kernel_rfl
theorem ue_off (C cnt mb : Nat) : (ueC C cnt mb S0 false).setIfInBounds (0 + 131) (.bool true) = ueC C cnt mb S0 true := by kernel_rfl
theorem built66 (p : Option Addr) (n c : Nat) : Yba.prog.built 66 [(0, .slice p n c)] = some #[.slice p n c] := by kernel_rfl
theorem chg_setRow (w : World) (g : Nat) (cs : Array Value) {m : Nat → Prop} (hm : m g) : Chg w (w.setRow g cs) m := ⟨rfl, rfl, rfl, by simp [World.setRow], fun k _ hk => by
  simp only [World.setRow, Array.getElem?_modify]
  rw [if_neg (fun e => hk (by rw [← e]; exact hm))]⟩

section
variable {N : Nat} {inf : Nat → TI} {C U mb cnt : Nat} {now : Int} {st : Nat} {S : List Value} {calls : Nat} {w : World} {v : Value} {ts : List Nat} {M : MapL}
set_option maxRecDepth 8000 in
theorem off_any (h : St N inf C U mb cnt now st S false calls w v ts M) (hM : MOk inf M ts) (hl : ts.length ≤ 5000) (hdue : ∀ t ∈ ts, -9223372036854775808 ≤ (inf t).due - now ∧ (inf t).due - now ≤ 9223372036854775807) :
    Calls Yba.prog 9 #[pv U] w fun e w' => ∃ vr, e = .returned (.agg #[vr]) ∧ ∃ L ts' vq, L.Perm ((runs M).map (·.1)) ∧ L.Pairwise (kl inf M) ∧ OwnA keptC 7 70 w.heap.size w' vr (L.map (kp inf M now)) ∧ (L = [] → vr = .slice none 0 0) ∧
      HQ N inf C now st w' vq ts' ∧ (ts' ++ (runs M).map (·.2)).Perm ts ∧ Chg w w' (fun k => k = C ∨ v.ownBlock = some k ∨ k ∈ ts ∨ k = mb ∨ k = U) ∧ w'.heap[mb]? = some (.map #[] M.length) ∧ (∀ k, vq.ownBlock = some k → v.ownBlock = some k) ∧
      w'.heap[U]? = some (.cells (ueC C cnt mb S0 true) 58 (0, 0)) := by
  refine calls_of Yba.func9 rfl Yba.ntmps9 rfl ?_
  refine WC.seq (WC.region ?_)
  refine WL.val rfl rfl (Runs.alloc in66) ?_
  refine WL.nil ?_
  repeat (first | refine AtExit.thenRet ?_ | refine AtExit.thenExit ?_ | refine AtExit.blockRet ?_ | refine AtExit.blockEnd ?_ | refine AtExit.blockExit ?_ | (refine AtExit.blockPast ?_ ?_; rfl))
  refine AtExit.go ?_
  have b1 := below_new w (.cells (Value.agg #[.slice none 0 0]).cells 66) (Nat.le_refl _)
  have x1 := heap_new w (.cells (Value.agg #[.slice none 0 0]).cells 66)
  have z1 := size_new w (.cells (Value.agg #[.slice none 0 0]).cells 66)
  generalize w.alloc _ = w1 at b1 x1 z1 ⊢
  obtain ⟨X, hX⟩ : ∃ b, b = w.heap.size := ⟨_, rfl⟩
  have x1' : w1.heap[X]? = some (.cells #[.slice none 0 0] 66 (0, 0)) := by rw [hX]; exact x1
  have h1 : St N inf C U mb cnt now st S false calls w1 v ts M := ⟨h.hq.below b1, below_heap b1 (lt_of_heap h.ue) h.ue, h.sl, below_heap b1 (lt_of_heap h.map) h.map, below_heap b1 (lt_of_heap h.cn) h.cn⟩
  rw [show Value.pointer (some ⟨w.heap.size, 0, none⟩) = pv X from by rw [hX]; rfl]
  refine WC.seq ?_
  refine WC.seq (WC.region ?_)
  repeat (first | (refine WL.val ?_ ?_ (Runs.move rfl) ?_; rfl; rfl) | (refine WL.val ?_ ?_ (Runs.assign rfl) ?_; rfl; rfl) | (refine WL.val ?_ ?_ (Runs.extract rfl rfl) ?_; rfl; rfl) | (refine WL.val ?_ ?_ (Runs.nilCheck rfl) ?_; rfl; rfl) | (refine WL.val ?_ ?_ (Runs.pickT rfl rfl) ?_; rfl; rfl) | (refine WL.val ?_ ?_ (Runs.pickF rfl rfl) ?_; rfl; rfl) | (refine WL.val ?_ ?_ (Runs.len rfl sl22) ?_; rfl; rfl) | (refine WL.val ?_ ?_ (Runs.len rfl sl23) ?_; rfl; rfl) | (refine WL.val ?_ ?_ (Runs.len rfl sl27) ?_; rfl; rfl) | (refine WL.val ?_ ?_ (Runs.len rfl sl28) ?_; rfl; rfl) | (refine WL.val ?_ ?_ (Runs.len rfl sl39) ?_; rfl; rfl) | (refine WL.val ?_ ?_ (Runs.len rfl sl64) ?_; rfl; rfl) | (refine WL.val ?_ ?_ (Runs.len rfl sl68) ?_; rfl; rfl) | (refine WL.val ?_ ?_ (Runs.len rfl sl86) ?_; rfl; rfl) | (refine WL.val ?_ ?_ (Runs.len rfl sl113) ?_; rfl; rfl) | (refine WL.pass ?_ ?_ ?_; rfl; rfl))
  refine WL.val rfl rfl (Runs.fld rfl fl58_4) ?_
  refine WL.val rfl rfl (Runs.load rfl na4 (v := .bool false) (by rw [cell_of h1.ue]; exact ue131 h.sl)) ?_
  refine WL.nil ?_
  repeat (first | refine AtExit.thenRet ?_ | refine AtExit.thenExit ?_ | refine AtExit.blockRet ?_ | refine AtExit.blockEnd ?_ | refine AtExit.blockExit ?_ | (refine AtExit.blockPast ?_ ?_; rfl))
  refine AtExit.go ?_
  refine WC.condF rfl ?_
  refine WC.skip ?_
  repeat (first | refine AtExit.thenRet ?_ | refine AtExit.thenExit ?_ | refine AtExit.blockRet ?_ | refine AtExit.blockEnd ?_ | refine AtExit.blockExit ?_ | (refine AtExit.blockPast ?_ ?_; rfl))
  refine AtExit.go ?_
  refine WC.seq (WC.region ?_)
  repeat (first | (refine WL.val ?_ ?_ (Runs.move rfl) ?_; rfl; rfl) | (refine WL.val ?_ ?_ (Runs.assign rfl) ?_; rfl; rfl) | (refine WL.val ?_ ?_ (Runs.extract rfl rfl) ?_; rfl; rfl) | (refine WL.val ?_ ?_ (Runs.nilCheck rfl) ?_; rfl; rfl) | (refine WL.val ?_ ?_ (Runs.pickT rfl rfl) ?_; rfl; rfl) | (refine WL.val ?_ ?_ (Runs.pickF rfl rfl) ?_; rfl; rfl) | (refine WL.val ?_ ?_ (Runs.len rfl sl22) ?_; rfl; rfl) | (refine WL.val ?_ ?_ (Runs.len rfl sl23) ?_; rfl; rfl) | (refine WL.val ?_ ?_ (Runs.len rfl sl27) ?_; rfl; rfl) | (refine WL.val ?_ ?_ (Runs.len rfl sl28) ?_; rfl; rfl) | (refine WL.val ?_ ?_ (Runs.len rfl sl39) ?_; rfl; rfl) | (refine WL.val ?_ ?_ (Runs.len rfl sl64) ?_; rfl; rfl) | (refine WL.val ?_ ?_ (Runs.len rfl sl68) ?_; rfl; rfl) | (refine WL.val ?_ ?_ (Runs.len rfl sl86) ?_; rfl; rfl) | (refine WL.val ?_ ?_ (Runs.len rfl sl113) ?_; rfl; rfl) | (refine WL.pass ?_ ?_ ?_; rfl; rfl))
  refine WL.call rfl rfl (RunsC.call rfl en12) (stopAll_any h1 hM hl hdue) ?_
  rintro e w2 ⟨vr, rfl, L, ts', vq, pL, sL, o2, nl2, q2, pm2, g2, m2, ob2⟩
  refine ⟨_, rfl, ?_⟩
  obtain ⟨p, c, rfl⟩ := o2.shape
  have k2 : ∀ {k : Nat} {o : Obj}, w1.heap[k]? = some o → no [30, 73] o = true → no [42] o = true → no [1000] o = true → w2.heap[k]? = some o := fun {k o} hx n1 n2 n3 => by
    refine g2.heap (fun hk => ?_) hx
    rcases hk with e | e | e | e
    · subst e
      rw [h1.hq.clk] at hx
      cases hx
      exact no_ne n1 (t := 30) (by simp) rfl
    · rcases h1.hq.own.2 with ⟨rfl, _⟩ | ⟨g, cap, cur, rfl, hb, hg, _⟩
      · cases e
      · cases e
        rw [hx] at hg
        cases hg
        exact no_ne n2 (t := 42) (by simp) rfl
    · obtain ⟨i, hi, e'⟩ := List.getElem_of_mem e
      have := h1.hq.tim i k (by rw [List.getElem?_eq_getElem hi, e'])
      unfold TimerAt at this
      rw [hx] at this
      cases this
      exact no_ne n1 (t := 73) (by simp) rfl
    · subst e
      have := h1.map
      unfold MapAt at this
      rw [hx] at this
      cases this
      exact no_ne n3 (t := 1000) (by simp) rfl
  have u2 := k2 h1.ue rfl rfl rfl
  have x2 := k2 x1' rfl rfl rfl
  refine WL.val rfl rfl (Runs.build rfl (built66 _ _ _)) ?_
  refine WL.val rfl rfl (Runs.alloc in66) ?_
  refine WL.skip rfl (RunsS.storeRow rfl rfl (by simp [Value.oneCell']) sz66 (heap_new _ _) rfl) ?_
  refine WL.nil ?_
  repeat (first | refine AtExit.thenRet ?_ | refine AtExit.thenExit ?_ | refine AtExit.blockRet ?_ | refine AtExit.blockEnd ?_ | refine AtExit.blockExit ?_ | (refine AtExit.blockPast ?_ ?_; rfl))
  refine AtExit.go ?_
  obtain ⟨b3, x3, z3⟩ := newVar w2 (Value.agg #[.slice none 0 0]).cells #[.slice p (L.map (kp inf M now)).length c] 66
  generalize (w2.alloc _).setRow _ _ = w3 at b3 x3 z3 ⊢
  obtain ⟨Y, hY⟩ : ∃ b, b = w2.heap.size := ⟨_, rfl⟩
  rw [← hY] at x3 ⊢
  have hXY : X < Y := by have := lt_of_heap x2; omega
  have u3 := below_heap b3 (lt_of_heap u2) u2
  have y3 := below_heap b3 (lt_of_heap x2) x2
  have q3 := q2.below b3
  have o3 := o2.below b3
  have m3 := below_heap b3 (lt_of_heap m2) m2
  have kU : ∀ {w' : World} {c' : Array Value} (l' : List Nat), w'.heap[U]? = some (.cells c' 58 (0, 0)) → no l' (.cells #[] 58 (0, 0)) = true → ∀ k, k = U → ∃ o', w'.heap[k]? = some o' ∧ no l' o' = true := fun l' hu hno k hk => by subst hk; exact ⟨_, hu, hno⟩
  refine WC.seq (WC.region ?_)
  repeat (first | (refine WL.val ?_ ?_ (Runs.move rfl) ?_; rfl; rfl) | (refine WL.val ?_ ?_ (Runs.assign rfl) ?_; rfl; rfl) | (refine WL.val ?_ ?_ (Runs.extract rfl rfl) ?_; rfl; rfl) | (refine WL.val ?_ ?_ (Runs.nilCheck rfl) ?_; rfl; rfl) | (refine WL.val ?_ ?_ (Runs.pickT rfl rfl) ?_; rfl; rfl) | (refine WL.val ?_ ?_ (Runs.pickF rfl rfl) ?_; rfl; rfl) | (refine WL.val ?_ ?_ (Runs.len rfl sl22) ?_; rfl; rfl) | (refine WL.val ?_ ?_ (Runs.len rfl sl23) ?_; rfl; rfl) | (refine WL.val ?_ ?_ (Runs.len rfl sl27) ?_; rfl; rfl) | (refine WL.val ?_ ?_ (Runs.len rfl sl28) ?_; rfl; rfl) | (refine WL.val ?_ ?_ (Runs.len rfl sl39) ?_; rfl; rfl) | (refine WL.val ?_ ?_ (Runs.len rfl sl64) ?_; rfl; rfl) | (refine WL.val ?_ ?_ (Runs.len rfl sl68) ?_; rfl; rfl) | (refine WL.val ?_ ?_ (Runs.len rfl sl86) ?_; rfl; rfl) | (refine WL.val ?_ ?_ (Runs.len rfl sl113) ?_; rfl; rfl) | (refine WL.pass ?_ ?_ ?_; rfl; rfl))
  refine WL.val rfl rfl (Runs.build (ps := []) rfl built55) ?_
  repeat (first | (refine WL.val ?_ ?_ (Runs.move rfl) ?_; rfl; rfl) | (refine WL.val ?_ ?_ (Runs.assign rfl) ?_; rfl; rfl) | (refine WL.val ?_ ?_ (Runs.extract rfl rfl) ?_; rfl; rfl) | (refine WL.val ?_ ?_ (Runs.nilCheck rfl) ?_; rfl; rfl) | (refine WL.val ?_ ?_ (Runs.pickT rfl rfl) ?_; rfl; rfl) | (refine WL.val ?_ ?_ (Runs.pickF rfl rfl) ?_; rfl; rfl) | (refine WL.val ?_ ?_ (Runs.len rfl sl22) ?_; rfl; rfl) | (refine WL.val ?_ ?_ (Runs.len rfl sl23) ?_; rfl; rfl) | (refine WL.val ?_ ?_ (Runs.len rfl sl27) ?_; rfl; rfl) | (refine WL.val ?_ ?_ (Runs.len rfl sl28) ?_; rfl; rfl) | (refine WL.val ?_ ?_ (Runs.len rfl sl39) ?_; rfl; rfl) | (refine WL.val ?_ ?_ (Runs.len rfl sl64) ?_; rfl; rfl) | (refine WL.val ?_ ?_ (Runs.len rfl sl68) ?_; rfl; rfl) | (refine WL.val ?_ ?_ (Runs.len rfl sl86) ?_; rfl; rfl) | (refine WL.val ?_ ?_ (Runs.len rfl sl113) ?_; rfl; rfl) | (refine WL.pass ?_ ?_ ?_; rfl; rfl))
  refine WL.val rfl rfl (Runs.fld rfl fl58_2) ?_
  refine WL.skip rfl (RunsS.storeMid rfl rfl S0_one S0_sz (ue_there u3 (i := 0) (k := S0.toArray.size) (by rw [h.sl]; exact Nat.le_of_eq S0_len))) ?_
  refine WL.nil ?_
  repeat (first | refine AtExit.thenRet ?_ | refine AtExit.thenExit ?_ | refine AtExit.blockRet ?_ | refine AtExit.blockEnd ?_ | refine AtExit.blockExit ?_ | (refine AtExit.blockPast ?_ ?_; rfl))
  refine AtExit.go ?_
  have e4 : S.take 0 ++ S0 ++ S.drop (0 + S0.length) = S0 := by rw [List.drop_eq_nil_of_le (by rw [h.sl, S0_len]; omega)]; simp
  have u4 := ue_put u3 (i := 0) S0 (by rw [h.sl, S0_len]; omega)
  rw [e4] at u4
  have g4 : Chg w3 (w3.setCells U (0 + 2) S0.toArray.toList) (fun k => k = U) := chg_setCells (m := fun k => k = U) U rfl _ _ _
  change WC _ _ _ _ _ (w3.setCells U (0 + 2) S0.toArray.toList)
  change (w3.setCells U (0 + 2) S0.toArray.toList).heap[U]? = _ at u4
  generalize w3.setCells U (0 + 2) S0.toArray.toList = w4 at u4 g4 ⊢
  have x4 := g4.obj x3 (kU _ u3 rfl)
  have y4 := g4.obj y3 (kU _ u3 rfl)
  have q4 := q3.chg g4 (fun k hk => by subst hk; exact ⟨_, u3, rfl, Or.inl rfl⟩)
  have o4 := o3.chg g4 (kU _ u3 rfl)
  have m4 := g4.obj m3 (kU _ u3 rfl)
  refine WC.seq (WC.region ?_)
  repeat (first | (refine WL.val ?_ ?_ (Runs.move rfl) ?_; rfl; rfl) | (refine WL.val ?_ ?_ (Runs.assign rfl) ?_; rfl; rfl) | (refine WL.val ?_ ?_ (Runs.extract rfl rfl) ?_; rfl; rfl) | (refine WL.val ?_ ?_ (Runs.nilCheck rfl) ?_; rfl; rfl) | (refine WL.val ?_ ?_ (Runs.pickT rfl rfl) ?_; rfl; rfl) | (refine WL.val ?_ ?_ (Runs.pickF rfl rfl) ?_; rfl; rfl) | (refine WL.val ?_ ?_ (Runs.len rfl sl22) ?_; rfl; rfl) | (refine WL.val ?_ ?_ (Runs.len rfl sl23) ?_; rfl; rfl) | (refine WL.val ?_ ?_ (Runs.len rfl sl27) ?_; rfl; rfl) | (refine WL.val ?_ ?_ (Runs.len rfl sl28) ?_; rfl; rfl) | (refine WL.val ?_ ?_ (Runs.len rfl sl39) ?_; rfl; rfl) | (refine WL.val ?_ ?_ (Runs.len rfl sl64) ?_; rfl; rfl) | (refine WL.val ?_ ?_ (Runs.len rfl sl68) ?_; rfl; rfl) | (refine WL.val ?_ ?_ (Runs.len rfl sl86) ?_; rfl; rfl) | (refine WL.val ?_ ?_ (Runs.len rfl sl113) ?_; rfl; rfl) | (refine WL.pass ?_ ?_ ?_; rfl; rfl))
  refine WL.val rfl rfl (Runs.fld rfl fl58_4) ?_
  refine WL.skip rfl (RunsS.store rfl rfl rfl sz4 (u := .bool false) (by rw [cell_of u4]; exact ue131 S0_len) (frozen_of u4)) ?_
  refine WL.nil ?_
  repeat (first | refine AtExit.thenRet ?_ | refine AtExit.thenExit ?_ | refine AtExit.blockRet ?_ | refine AtExit.blockEnd ?_ | refine AtExit.blockExit ?_ | (refine AtExit.blockPast ?_ ?_; rfl))
  refine AtExit.go ?_
  have u5 := heap_set (o := 0 + 131) (v := .bool true) u4
  rw [ue_off] at u5
  have g5 : Chg w4 (w4.setCell ⟨U, 0 + 131, none⟩ (.bool true)) (fun k => k = U) := Chg.set _ _ _ rfl
  generalize w4.setCell ⟨U, 0 + 131, none⟩ (.bool true) = w5 at u5 g5 ⊢
  have x5 := g5.obj x4 (kU _ u4 rfl)
  have y5 := g5.obj y4 (kU _ u4 rfl)
  have q5 := q4.chg g5 (fun k hk => by subst hk; exact ⟨_, u4, rfl, Or.inl rfl⟩)
  have o5 := o4.chg g5 (kU _ u4 rfl)
  have m5 := g5.obj m4 (kU _ u4 rfl)
  refine WC.seq (WC.region ?_)
  refine WL.val rfl rfl (Runs.loadAgg (cs := [.slice p (L.map (kp inf M now)).length c]) rfl na66 sz66 (fun j v hv => by rw [cell_of x5, Nat.zero_add]; exact (List.getElem?_toArray).trans hv)) ?_
  refine WL.skip rfl (RunsS.storeRow rfl rfl (by simp [Value.oneCell']) sz66 y5 rfl) ?_
  refine WL.nil ?_
  repeat (first | refine AtExit.thenRet ?_ | refine AtExit.thenExit ?_ | refine AtExit.blockRet ?_ | refine AtExit.blockEnd ?_ | refine AtExit.blockExit ?_ | (refine AtExit.blockPast ?_ ?_; rfl))
  refine AtExit.go ?_
  refine WC.ret ?_
  repeat (first | refine AtExit.thenRet ?_ | refine AtExit.thenExit ?_ | refine AtExit.blockRet ?_ | refine AtExit.blockEnd ?_ | refine AtExit.blockExit ?_ | (refine AtExit.blockPast ?_ ?_; rfl))
  have g6 : Chg w5 (w5.setRow X [Value.slice p (L.map (kp inf M now)).length c].toArray) (fun k => k = X) := chg_setRow (m := fun k => k = X) _ _ _ rfl
  have kX : ∀ (l' : List Nat), no l' (.cells #[] 66 (0, 0)) = true → ∀ k, k = X → ∃ o', w5.heap[k]? = some o' ∧ no l' o' = true := fun l' h1 k hk => ⟨_, (congrArg (fun b => w5.heap[b]?) hk).trans y5, h1⟩
  refine postCell rfl rfl (setRow_heap _ _ _ _ _ _ y5) Yba.underlying66 rfl sz66 ⟨_, rfl, L, ts', vq, pL, sL, (o5.mono (by omega)).chg g6 (kX _ rfl), nl2, q5.chg g6 (fun k hk => by subst hk; exact ⟨_, y5, rfl, Or.inl rfl⟩), pm2, ?_, g6.obj m5 (kX _ rfl), ob2, g6.obj u5 (kX _ rfl)⟩
  have gg : Chg w (w5.setRow X [Value.slice p (L.map (kp inf M now)).length c].toArray) (fun k => ((k = C ∨ v.ownBlock = some k ∨ k ∈ ts ∨ k = mb) ∨ k = U) ∨ k = X) :=
    (Chg.of_below b1).trans (Chg.trans (b := w2) (g2.mono fun k _ hk => Or.inl (Or.inl hk)) (Chg.trans (b := w3) (Chg.of_below b3) (Chg.trans (b := w4) (g4.mono fun k _ hk => Or.inl (Or.inr hk)) (Chg.trans (b := w5) (g5.mono fun k _ hk => Or.inl (Or.inr hk)) (g6.mono fun k _ hk => Or.inr hk)))))
  refine gg.mono fun k hk hm => ?_
  rcases hm with ((a1 | a1 | a1 | a1) | a1) | a1
  · exact Or.inl a1
  · exact Or.inr (Or.inl a1)
  · exact Or.inr (Or.inr (Or.inl a1))
  · exact Or.inr (Or.inr (Or.inr (Or.inl a1)))
  · exact Or.inr (Or.inr (Or.inr (Or.inr a1)))
  · omega
end
end Go.Proofs.Ybulkgfdm
