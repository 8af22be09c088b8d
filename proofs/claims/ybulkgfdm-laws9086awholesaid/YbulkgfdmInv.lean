/- What stands between two of the law's steps. -/
import Derived.Test.YbulkgfdmArgs
namespace Go.Proofs.Ybulkgfdm
open Go Go.Fr Go.RowKit

theorem runs_none (M : MapL) (x : Nat) : runs (M ++ [(x, none)]) = runs M := by simp [runs, rg]
theorem runs_some (M : MapL) (x t : Nat) : runs (M ++ [(x, some t)]) = runs M ++ [(x, t)] := by simp [runs, rg]
theorem snoc_get {α : Type} {l : List α} {p q : α} {j : Nat} (h : (l ++ [p])[j]? = some q) : l[j]? = some q ∨ (j = l.length ∧ q = p) := by
  rcases Nat.lt_trichotomy j l.length with hj | hj | hj
  · rw [List.getElem?_append_left hj] at h; exact Or.inl h
  · subst hj
    rw [List.getElem?_append_right (Nat.le_refl _), Nat.sub_self] at h
    cases h; exact Or.inr ⟨rfl, rfl⟩
  · rw [List.getElem?_eq_none (by simp; omega)] at h; cases h
theorem neT {ts : List Nat} {t T : Nat} (h1 : t ∈ ts) (hT : T ∉ ts) : t ≠ T := fun e => hT (e ▸ h1)
theorem upd_at (inf : Nat → TI) (T : Nat) (X : TI) : upd inf T X T = X := by unfold upd; rw [if_pos rfl]
theorem upd_ne {inf : Nat → TI} {T : Nat} {X : TI} {t : Nat} (h : t ≠ T) : upd inf T X t = inf t := by unfold upd; rw [if_neg h]

section
variable {inf : Nat → TI} {M : MapL} {ts ts' : List Nat}
theorem keysAdd (hn : (M.map (·.1)).Nodup) {x : Nat} (o : Option Nat) (hx : lookM x M = none) : ((M ++ [(x, o)]).map (·.1)).Nodup := by
  rw [List.map_append, List.nodup_append]
  refine ⟨hn, by simp, fun a ha b hb e => lookM_none.1 hx ?_⟩
  simp only [List.map_cons, List.map_nil, List.mem_singleton] at hb
  rw [← hb, ← e]; exact ha
theorem allKAdd (h : AllK M) {x : Nat} (o : Option Nat) (hx : x < 9) : AllK (M ++ [(x, o)]) := fun p hp => by
  rcases List.mem_append.1 hp with h1 | h1
  · exact h p h1
  · rw [List.mem_singleton.1 h1]; exact hx
theorem MOk.addNone (h : MOk inf M ts) {x : Nat} (hx : x < 9) (hn : lookM x M = none) : MOk inf (M ++ [(x, none)]) ts := by
  refine ⟨allKAdd h.K _ hx, keysAdd h.nd _ hn, fun j y t hj => ?_, fun j j' y y' t hj hj' => ?_, h.st⟩
  · rcases snoc_get hj with h1 | ⟨_, h1⟩
    · exact h.live j y t h1
    · cases h1
  · rcases snoc_get hj with h1 | ⟨_, h1⟩
    · rcases snoc_get hj' with h2 | ⟨_, h2⟩
      · exact h.inj _ _ _ _ _ h1 h2
      · cases h2
    · cases h1
theorem MOk.addFor (h : MOk inf M ts) {T st : Nat} (hT : T ∉ ts) (X : TI) (hX : X.start = st + 1) (hb : ∀ t ∈ ts, (inf t).start ≤ st) (hp : ts'.Perm (ts ++ [T])) : MOk (upd inf T X) M ts' := by
  have hm : ∀ t, t ∈ ts' ↔ t ∈ ts ∨ t = T := fun t => by rw [hp.mem_iff]; simp
  refine ⟨h.K, h.nd, fun j y t hj => (hm t).2 (Or.inl (h.live j y t hj)), h.inj, fun t ht t' ht' hne => ?_⟩
  rcases (hm t).1 ht with h1 | h1 <;> rcases (hm t').1 ht' with h2 | h2
  · rw [upd_ne (neT (h1) hT), upd_ne (neT (h2) hT)]; exact h.st t h1 t' h2 hne
  · rw [h2, upd_at, upd_ne (neT (h1) hT), hX]; have := hb t h1; omega
  · rw [h1, upd_at, upd_ne (neT (h2) hT), hX]; have := hb t' h2; omega
  · exact absurd (h1.trans h2.symm) hne
theorem MOk.addRun (h : MOk inf M ts) {T st : Nat} (hT : T ∉ ts) (X : TI) (hX : X.start = st + 1) (hb : ∀ t ∈ ts, (inf t).start ≤ st) (hp : ts'.Perm (ts ++ [T])) {x : Nat} (hx : x < 9) (hn : lookM x M = none) : MOk (upd inf T X) (M ++ [(x, some T)]) ts' := by
  have h0 := h.addFor hT X hX hb hp
  refine ⟨allKAdd h.K _ hx, keysAdd h.nd _ hn, fun j y t hj => ?_, fun j j' y y' t hj hj' => ?_, h0.st⟩
  · rcases snoc_get hj with h1 | ⟨_, h1⟩
    · exact h0.live j y t h1
    · cases h1; exact hp.mem_iff.2 (by simp)
  · rcases snoc_get hj with h1 | ⟨e1, h1⟩
    · rcases snoc_get hj' with h2 | ⟨_, h2⟩
      · exact h.inj _ _ _ _ _ h1 h2
      · cases h2; exact absurd (h.live _ _ _ h1) hT
    · rcases snoc_get hj' with h2 | ⟨e2, h2⟩
      · cases h1; exact absurd (h.live _ _ _ h2) hT
      · rw [e1, e2]
theorem MOk.snd (h : MOk inf M ts) {p : Nat × Nat} (hp : p ∈ runs M) : p.2 ∈ ts := by
  obtain ⟨x, t⟩ := p
  obtain ⟨j, hj, e⟩ := List.getElem_of_mem (mem_runs.1 hp)
  exact h.live j x t (by rw [List.getElem?_eq_getElem hj, e])
theorem en_upd (h : MOk inf M ts) {T : Nat} (hT : T ∉ ts) (X : TI) (now : Int) : (runs M).map (en (upd inf T X) now) = (runs M).map (en inf now) := by
  refine List.map_congr_left fun p hp => ?_
  unfold en
  rw [upd_ne (neT (h.snd hp) hT)]
end

structure OI (C U mb cnt bT bD : Nat) (now : Int) (w0 : World) (i : Nat) (inf : Nat → TI) (st : Nat) (S : List Value) (calls : Nat) (v : Value) (ts : List Nat) (M : MapL) (vr vf : Value) (F : List Nat) (w : World) : Prop where
  su : St w0.heap.size inf C U mb cnt now st S false calls w v ts M
  ok : MOk inf M ts
  run : OwnA entC 8 61 w0.heap.size w vr ((runs M).map (en inf now))
  frn : OwnA fC 1 42 w0.heap.size w vf F
  pm : ts.Perm (F ++ (runs M).map (·.2))
  ne : ∀ k, v.ownBlock = some k → vf.ownBlock ≠ some k
  bd : st ≤ i ∧ calls ≤ i
  tl : ts.length = st
  inb : ∀ t ∈ ts, 1 ≤ (inf t).start ∧ (inf t).start ≤ st ∧ now ≤ (inf t).due ∧ (inf t).due < now + 1125899906842624
  tb : ∀ t ∈ ts, w0.heap.size ≤ t
  tT : w.heap[bT]? = some (.cells tabT 37 (0, 0))
  tD : w.heap[bD]? = some (.cells tabD 38 (0, 0))
  bel : Below w0.heap.size w0 w
  ln : (runs M).length ≤ 9

section
variable {C U mb cnt bT bD : Nat} {now : Int} {w0 : World} {i : Nat} {inf : Nat → TI} {st : Nat} {S : List Value} {calls : Nat} {v : Value} {ts : List Nat} {M : MapL} {vr vf : Value} {F : List Nat} {w w' : World}
theorem OI.below (h : OI C U mb cnt bT bD now w0 i inf st S calls v ts M vr vf F w) (hb : Below w.heap.size w w') : OI C U mb cnt bT bD now w0 i inf st S calls v ts M vr vf F w' :=
  ⟨⟨h.su.hq.below hb, below_heap hb (lt_of_heap h.su.ue) h.su.ue, h.su.sl, below_heap hb (lt_of_heap h.su.map) h.su.map, below_heap hb (lt_of_heap h.su.cn) h.su.cn⟩, h.ok, h.run.below hb, h.frn.below hb, h.pm, h.ne, h.bd, h.tl, h.inb, h.tb,
    below_heap hb (lt_of_heap h.tT) h.tT, below_heap hb (lt_of_heap h.tD) h.tD, h.bel.trans (hb.mono h.bel.size), h.ln⟩
theorem OI.next (h : OI C U mb cnt bT bD now w0 i inf st S calls v ts M vr vf F w) : OI C U mb cnt bT bD now w0 (i + 1) inf st S calls v ts M vr vf F w :=
  ⟨h.su, h.ok, h.run, h.frn, h.pm, h.ne, ⟨by have := h.bd; omega, by have := h.bd; omega⟩, h.tl, h.inb, h.tb, h.tT, h.tD, h.bel, h.ln⟩
theorem runs_short (hK : AllK M) (hn : (M.map (·.1)).Nodup) : (runs M).length ≤ 9 := by
  have h1 : (runs M).length ≤ M.length := by unfold runs; exact List.length_filterMap_le _ _
  have h2 := nodup_short hn (n := 9) (fun x hx => by
    obtain ⟨p, hp, rfl⟩ := List.mem_map.1 hx
    exact hK p hp)
  rw [List.length_map] at h2
  omega
theorem fresh (h : OI C U mb cnt bT bD now w0 i inf st S calls v ts M vr vf F w) {T : Nat} (hT : w.heap.size ≤ T) : T ∉ ts := fun hm => by
  obtain ⟨j, hj, e⟩ := List.getElem_of_mem hm
  have := lt_of_heap (h.su.hq.tim j T (by rw [List.getElem?_eq_getElem hj, e]))
  omega
theorem OI.dead (h : OI C U mb cnt bT bD now w0 i inf st S calls v ts M vr vf F w) {x : Nat} (hx : x < 9) (hn : lookM x M = none) (hm : MapAt w' mb (M ++ [(x, Option.none)])) (hg : Chg w w' (fun k => k = mb)) (hB : w0.heap.size ≤ mb) :
    OI C U mb cnt bT bD now w0 (i + 1) inf st S calls v ts (M ++ [(x, Option.none)]) vr vf F w' := by
  have kk : ∀ (l' : List Nat), no l' (.map (ents 0 M).toArray M.length) = true → ∀ k, k = mb → ∃ o', w.heap[k]? = some o' ∧ no l' o' = true := fun l' h1 k hk => by subst hk; exact ⟨_, h.su.map, h1⟩
  refine ⟨⟨h.su.hq.chg hg (fun k hk => by subst hk; exact ⟨_, h.su.map, rfl, Or.inl rfl⟩), hg.obj h.su.ue (kk _ rfl), h.su.sl, hm, hg.obj h.su.cn (kk _ rfl)⟩, h.ok.addNone hx hn, ?_, h.frn.chg hg (kk _ rfl), ?_, h.ne, ⟨by have := h.bd; omega, by have := h.bd; omega⟩, h.tl, h.inb, h.tb, hg.obj h.tT (kk _ rfl), hg.obj h.tD (kk _ rfl), ?_, ?_⟩
  · rw [runs_none]; exact h.run.chg hg (kk _ rfl)
  · rw [runs_none]; exact h.pm
  · exact h.bel.trans (hg.below (fun k hk e => by omega) h.bel.size)
  · rw [runs_none]; exact h.ln

/-- A timer of someone else is started and noted. -/
theorem OI.foreign (h : OI C U mb cnt bT bD now w0 i inf st S calls v ts M vr vf F w) (hB : w0.heap.size ≤ C) (hst : st < 4900) {d : Int} (hd0 : 0 ≤ d) (hd1 : d < 1125899906842624) {f v' : Value} {ts' : List Nat}
    (q' : HQ w0.heap.size (upd inf w.heap.size ⟨now + d, st + 1, f⟩) C now (st + 1) w' v' ts') (p' : ts'.Perm (ts ++ [w.heap.size])) (g' : Chg w w' (fun k => k = C ∨ v.ownBlock = some k ∨ k ∈ ts)) (loc' : ∀ k, v'.ownBlock = some k → v.ownBlock = some k ∨ w.heap.size ≤ k) :
    ∃ vf' w'', (Builtin.append_ #[27, 27] 27 #[vf, .slice (some ⟨w'.heap.size, 0, Option.none⟩) 1 1]).run Yba.prog (w'.alloc (.cells (fC w.heap.size).toArray 42)) = .ok vf' w'' ∧
      OI C U mb cnt bT bD now w0 (i + 1) (upd inf w.heap.size ⟨now + d, st + 1, f⟩) (st + 1) S calls v' ts' M vr vf' (F ++ [w.heap.size]) w'' := by
  have hT := fresh h (Nat.le_refl w.heap.size)
  have kp : ∀ {k : Nat} {o : Obj}, w.heap[k]? = some o → no [30, 73] o = true → no [42] o = true → w'.heap[k]? = some o := fun hx h1 h2 => h.su.hq.keep g' hx ⟨h1, Or.inl h2⟩
  have f1 : OwnA fC 1 42 w0.heap.size w' vf F := h.frn.same fun k hk => by
    obtain ⟨_, c, hx⟩ := h.frn.tag hk
    rw [hx]
    exact h.su.hq.keep g' hx ⟨rfl, Or.inr fun e => h.ne k e hk⟩
  have r1 : OwnA entC 8 61 w0.heap.size w' vr ((runs M).map (en inf now)) := h.run.same fun k hk => by
    obtain ⟨_, c, hx⟩ := h.run.tag hk
    rw [hx]
    exact kp hx rfl rfl
  have hFl : F.length ≤ st := by have := h.pm.length_eq; rw [List.length_append, h.tl] at this; omega
  obtain ⟨vf', w'', hr, f2, g2, loc2, _⟩ := OwnA.add (T := 27) fC_len fC_one Yba.underlying27 in42 rfl (by omega) (by omega) f1 (Nat.le_trans h.bel.size g'.size) (by omega) w.heap.size
  have flt : ∀ k, vf.ownBlock = some k → k < w.heap.size := fun k hk => by
    obtain ⟨_, c, hx⟩ := h.frn.tag hk
    exact lt_of_heap hx
  have vne : ∀ k, vf.ownBlock = some k → v'.ownBlock ≠ some k := fun k hk e => by
    rcases loc' k e with h1 | h1
    · exact h.ne k h1 hk
    · have := flt k hk; omega
  have kk : ∀ (l' : List Nat), no l' (.cells #[] 42 (0, 0)) = true → ∀ k, vf.ownBlock = some k → ∃ o', w'.heap[k]? = some o' ∧ no l' o' = true := fun l' h1 k hk => by
    obtain ⟨_, c, hx⟩ := f1.tag hk
    exact ⟨_, hx, h1⟩
  refine ⟨vf', w'', hr, ⟨q'.chg g2 (fun k hk => ?_), ?_, h.su.sl, ?_, ?_⟩, h.ok.addFor hT _ rfl (fun t ht => (h.inb t ht).2.1) p', ?_, f2, ?_, ?_, ⟨by have := h.bd; omega, by have := h.bd; omega⟩, ?_, ?_, ?_, ?_, ?_, ?_, h.ln⟩
  · obtain ⟨_, c, hx⟩ := f1.tag hk
    exact ⟨_, hx, rfl, Or.inr (vne k hk)⟩
  · exact g2.obj (kp h.su.ue rfl rfl) (kk _ rfl)
  · exact g2.obj (kp h.su.map rfl rfl) (kk _ rfl)
  · exact g2.obj (kp h.su.cn rfl rfl) (kk _ rfl)
  · rw [en_upd h.ok hT]
    exact r1.chg g2 (kk _ rfl)
  · refine p'.trans ?_
    refine (h.pm.append_right _).trans ?_
    rw [List.append_assoc, List.append_assoc]
    exact List.Perm.append_left _ List.perm_append_comm
  · intro k hk e
    rcases loc2 k e with h1 | h1
    · exact vne k h1 hk
    · have := (q'.row_ne hk).2.2.2; omega
  · rw [p'.length_eq, List.length_append, h.tl]; rfl
  · intro t ht
    rcases List.mem_append.1 (p'.mem_iff.1 ht) with h1 | h1
    · rw [upd_ne (neT (h1) hT)]
      obtain ⟨a1, a2, a3, a4⟩ := h.inb t h1
      exact ⟨a1, by omega, a3, a4⟩
    · rw [List.mem_singleton.1 h1, upd_at]
      exact ⟨Nat.le_add_left 1 st, Nat.le_refl _, (by omega : now ≤ now + d), (by omega : now + d < now + 1125899906842624)⟩
  · intro t ht
    rcases List.mem_append.1 (p'.mem_iff.1 ht) with h1 | h1
    · exact h.tb t h1
    · rw [List.mem_singleton.1 h1]; exact h.bel.size
  · exact g2.obj (kp h.tT rfl rfl) (kk _ rfl)
  · exact g2.obj (kp h.tD rfl rfl) (kk _ rfl)
  · refine (h.bel.trans (g'.below (fun k hk e => ?_) h.bel.size)).trans (g2.below (fun k hk e => by have := (f1.tag e).1; omega) (Nat.le_trans h.bel.size g'.size))
    rcases e with h1 | h1 | h1
    · omega
    · have := (h.su.hq.row_ne h1).2.2.1; omega
    · have := h.tb k h1; omega

/-- A back-off timer is started and noted. -/
theorem OI.running (h : OI C U mb cnt bT bD now w0 i inf st S calls v ts M vr vf F w) (hB : w0.heap.size ≤ C ∧ w0.heap.size ≤ mb ∧ w0.heap.size ≤ cnt) {d : Int} (hd0 : 0 ≤ d) (hd1 : d < 1125899906842624) {f v' : Value} {ts' : List Nat} {T x : Nat} (hT0 : w.heap.size ≤ T) (hx : x < 9) (hn : lookM x M = none)
    (s' : St w0.heap.size (upd inf T ⟨now + d, st + 1, f⟩) C U mb cnt now (st + 1) S false (calls + 1) w' v' ts' (M ++ [(x, some T)])) (p' : ts'.Perm (ts ++ [T])) (g' : Chg w w' (fun k => k = C ∨ v.ownBlock = some k ∨ k ∈ ts ∨ k = mb ∨ k = cnt)) (loc' : ∀ k, v'.ownBlock = some k → v.ownBlock = some k ∨ w.heap.size ≤ k) :
    ∃ vr' w'', (Builtin.append_ #[39, 39] 39 #[vr, .slice (some ⟨w'.heap.size, 0, Option.none⟩) 1 1]).run Yba.prog (w'.alloc (.cells (entC (x, d, st)).toArray 61)) = .ok vr' w'' ∧
      OI C U mb cnt bT bD now w0 (i + 1) (upd inf T ⟨now + d, st + 1, f⟩) (st + 1) S (calls + 1) v' ts' (M ++ [(x, some T)]) vr' vf (F) w'' := by
  have hT := fresh h hT0
  have kp : ∀ {k : Nat} {o : Obj}, w.heap[k]? = some o → no [30, 73] o = true → (no [42] o = true ∨ v.ownBlock ≠ some k) → no [1000, 3] o = true → w'.heap[k]? = some o := fun {k o} hx n1 n2 n3 => by
    refine g'.heap (fun hk => ?_) hx
    rcases hk with e | e | e | e | e
    · subst e
      have := h.su.hq.clk
      rw [hx] at this
      cases this
      exact no_ne n1 (t := 30) (by simp) rfl
    · rcases n2 with n2 | n2
      · rcases h.su.hq.own.2 with ⟨rfl, _⟩ | ⟨g, cap, cur, rfl, hb, hg, _⟩
        · cases e
        · cases e
          rw [hx] at hg
          cases hg
          exact no_ne n2 (t := 42) (by simp) rfl
      · exact n2 e
    · obtain ⟨j, hj, e'⟩ := List.getElem_of_mem e
      have := h.su.hq.tim j k (by rw [List.getElem?_eq_getElem hj, e'])
      unfold TimerAt at this
      rw [hx] at this
      cases this
      exact no_ne n1 (t := 73) (by simp) rfl
    · subst e
      have := h.su.map
      unfold MapAt at this
      rw [hx] at this
      cases this
      exact no_ne n3 (t := 1000) (by simp) rfl
    · subst e
      have := h.su.cn
      rw [hx] at this
      cases this
      exact no_ne n3 (t := 3) (by simp) rfl
  have f1 : OwnA fC 1 42 w0.heap.size w' vf F := h.frn.same fun k hk => by
    obtain ⟨_, c, hx⟩ := h.frn.tag hk
    rw [hx]
    exact kp hx rfl (Or.inr fun e => h.ne k e hk) rfl
  have r1 : OwnA entC 8 61 w0.heap.size w' vr ((runs M).map (en inf now)) := h.run.same fun k hk => by
    obtain ⟨_, c, hx⟩ := h.run.tag hk
    rw [hx]
    exact kp hx rfl (Or.inl rfl) rfl
  obtain ⟨vr', w'', hr, r2, g2, loc2, _⟩ := OwnA.add (T := 39) entC_len entC_one Yba.underlying39 in61 rfl (by omega) (by omega) r1 (Nat.le_trans h.bel.size g'.size) (by rw [List.length_map]; have := h.ln; omega) (x, d, st)
  have flt : ∀ k, vf.ownBlock = some k → k < w.heap.size := fun k hk => by
    obtain ⟨_, c, hx⟩ := h.frn.tag hk
    exact lt_of_heap hx
  have kk : ∀ (l' : List Nat), no l' (.cells #[] 61 (0, 0)) = true → ∀ k, vr.ownBlock = some k → ∃ o', w'.heap[k]? = some o' ∧ no l' o' = true := fun l' h1 k hk => by
    obtain ⟨_, c, hx⟩ := r1.tag hk
    exact ⟨_, hx, h1⟩
  have ok' := h.ok.addRun hT ⟨now + d, st + 1, f⟩ rfl (fun t ht => (h.inb t ht).2.1) p' hx hn
  refine ⟨vr', w'', hr, ⟨s'.hq.chg g2 (fun k hk => ?_), ?_, h.su.sl, ?_, ?_⟩, ok', ?_, f1.chg g2 (kk _ rfl), ?_, ?_, ⟨by have := h.bd; omega, by have := h.bd; omega⟩, ?_, ?_, ?_, ?_, ?_, ?_, runs_short ok'.K ok'.nd⟩
  · obtain ⟨_, c, hx⟩ := r1.tag hk
    exact ⟨_, hx, rfl, Or.inl rfl⟩
  · exact g2.obj s'.ue (kk _ rfl)
  · exact g2.obj s'.map (kk _ rfl)
  · exact g2.obj s'.cn (kk _ rfl)
  · rw [runs_some, List.map_append, en_upd h.ok hT]
    have e1 : [(x, T)].map (en (upd inf T ⟨now + d, st + 1, f⟩) now) = [(x, d, st)] := by
      rw [List.map_singleton]
      unfold en
      rw [upd_at]
      show [(x, now + d - now, st + 1 - 1)] = _
      rw [show now + d - now = d from by omega, Nat.add_sub_cancel]
    rw [e1]
    exact r2
  · rw [runs_some, List.map_append]
    refine p'.trans ?_
    refine (h.pm.append_right _).trans ?_
    rw [List.append_assoc]
    exact List.Perm.refl _
  · intro k hk e
    rcases loc' k hk with h1 | h1
    · exact h.ne k h1 e
    · have := flt k e; omega
  · rw [p'.length_eq, List.length_append, h.tl]; rfl
  · intro t ht
    rcases List.mem_append.1 (p'.mem_iff.1 ht) with h1 | h1
    · rw [upd_ne (neT h1 hT)]
      obtain ⟨a1, a2, a3, a4⟩ := h.inb t h1
      exact ⟨a1, by omega, a3, a4⟩
    · rw [List.mem_singleton.1 h1, upd_at]
      exact ⟨Nat.le_add_left 1 st, Nat.le_refl _, (by omega : now ≤ now + d), (by omega : now + d < now + 1125899906842624)⟩
  · intro t ht
    rcases List.mem_append.1 (p'.mem_iff.1 ht) with h1 | h1
    · exact h.tb t h1
    · rw [List.mem_singleton.1 h1]; exact Nat.le_trans h.bel.size hT0
  · exact g2.obj (kp h.tT rfl (Or.inl rfl) rfl) (kk _ rfl)
  · exact g2.obj (kp h.tD rfl (Or.inl rfl) rfl) (kk _ rfl)
  · refine (h.bel.trans (g'.below (fun k hk e => ?_) h.bel.size)).trans (g2.below (fun k hk e => by have := (r1.tag e).1; omega) (Nat.le_trans h.bel.size g'.size))
    rcases e with h1 | h1 | h1 | h1 | h1
    · omega
    · have := (h.su.hq.row_ne h1).2.2.1; omega
    · have := h.tb k h1; omega
    · omega
    · omega

theorem OI.sess (h : OI C U mb cnt bT bD now w0 i inf st S calls v ts M vr vf F w) {S' : List Value} (hu : w'.heap[U]? = some (.cells (ueC C cnt mb S' false) 58 (0, 0))) (hs : S'.length = 128) (hg : Chg w w' (fun k => k = U)) (hB : w0.heap.size ≤ U) :
    OI C U mb cnt bT bD now w0 i inf st S' calls v ts M vr vf F w' := by
  have kk : ∀ (l' : List Nat), no l' (.cells (ueC C cnt mb S false) 58 (0, 0)) = true → ∀ k, k = U → ∃ o', w.heap[k]? = some o' ∧ no l' o' = true := fun l' h1 k hk => by subst hk; exact ⟨_, h.su.ue, h1⟩
  exact ⟨⟨h.su.hq.chg hg (fun k hk => by subst hk; exact ⟨_, h.su.ue, rfl, Or.inl rfl⟩), hu, hs, hg.obj h.su.map (kk _ rfl), hg.obj h.su.cn (kk _ rfl)⟩, h.ok, h.run.chg hg (kk _ rfl), h.frn.chg hg (kk _ rfl), h.pm, h.ne, h.bd, h.tl, h.inb, h.tb,
    hg.obj h.tT (kk _ rfl), hg.obj h.tD (kk _ rfl), h.bel.trans (hg.below (fun k hk e => by omega) h.bel.size), h.ln⟩

/-- What stands behind SwitchOff. -/
structure PO (C U mb cnt : Nat) (now : Int) (w0 : World) (st calls : Nat) (E : List Ent) (K : List (Nat × Int)) (vr vf vg vq : Value) (F ts : List Nat) (inf : Nat → TI) (w : World) : Prop where
  run : OwnA entC 8 61 w0.heap.size w vr E
  frn : OwnA fC 1 42 w0.heap.size w vf F
  got : OwnA keptC 7 70 w0.heap.size w vg K
  nil : K = [] → vg = .slice Option.none 0 0
  hq : HQ w0.heap.size inf C now st w vq ts
  pm : ts.Perm F
  ue : w.heap[U]? = some (.cells (ueC C cnt mb S0 true) 58 (0, 0))
  map : ∃ n, w.heap[mb]? = some (.map #[] n)
  cn : w.heap[cnt]? = some (.cells #[.int .i64 (calls : Int)] 3 (0, 0))
  bel : Below w0.heap.size w0 w
theorem PO.below {E : List Ent} {K : List (Nat × Int)} {vg vq : Value} (h : PO C U mb cnt now w0 st calls E K vr vf vg vq F ts inf w) (hb : Below w.heap.size w w') : PO C U mb cnt now w0 st calls E K vr vf vg vq F ts inf w' := by
  obtain ⟨n, hn⟩ := h.map
  exact ⟨h.run.below hb, h.frn.below hb, h.got.below hb, h.nil, h.hq.below hb, h.pm, below_heap hb (lt_of_heap h.ue) h.ue, ⟨n, below_heap hb (lt_of_heap hn) hn⟩, below_heap hb (lt_of_heap h.cn) h.cn, h.bel.trans (hb.mono h.bel.size)⟩
theorem OI.off (h : OI C U mb cnt bT bD now w0 i inf st S calls v ts M vr vf F w) (hB : w0.heap.size ≤ C ∧ w0.heap.size ≤ mb ∧ w0.heap.size ≤ U) {vg vq : Value} {L ts' : List Nat} (o2 : OwnA keptC 7 70 w.heap.size w' vg (L.map (kp inf M now))) (nl : L = [] → vg = .slice Option.none 0 0)
    (q2 : HQ w0.heap.size inf C now st w' vq ts') (pm2 : (ts' ++ (runs M).map (·.2)).Perm ts) (g' : Chg w w' (fun k => k = C ∨ v.ownBlock = some k ∨ k ∈ ts ∨ k = mb ∨ k = U)) (m2 : w'.heap[mb]? = some (.map #[] M.length)) (u2 : w'.heap[U]? = some (.cells (ueC C cnt mb S0 true) 58 (0, 0))) :
    PO C U mb cnt now w0 st calls ((runs M).map (en inf now)) (L.map (kp inf M now)) vr vf vg vq F ts' inf w' := by
  have kp : ∀ {k : Nat} {o : Obj}, w.heap[k]? = some o → no [30, 73] o = true → (no [42] o = true ∨ v.ownBlock ≠ some k) → no [1000, 58] o = true → w'.heap[k]? = some o := fun {k o} hx n1 n2 n3 => by
    refine g'.heap (fun hk => ?_) hx
    rcases hk with e | e | e | e | e
    · subst e
      have := h.su.hq.clk
      rw [hx] at this
      cases this
      exact no_ne n1 (t := 30) (by simp) rfl
    · rcases n2 with n2 | n2
      · rcases h.su.hq.own.2 with ⟨rfl, _⟩ | ⟨g, cap, cur, rfl, hb, hg, _⟩
        · cases e
        · cases e
          rw [hx] at hg
          cases hg
          exact no_ne n2 (t := 42) (by simp) rfl
      · exact n2 e
    · obtain ⟨j, hj, e'⟩ := List.getElem_of_mem e
      have := h.su.hq.tim j k (by rw [List.getElem?_eq_getElem hj, e'])
      unfold TimerAt at this
      rw [hx] at this
      cases this
      exact no_ne n1 (t := 73) (by simp) rfl
    · subst e
      have := h.su.map
      unfold MapAt at this
      rw [hx] at this
      cases this
      exact no_ne n3 (t := 1000) (by simp) rfl
    · subst e
      have := h.su.ue
      rw [hx] at this
      cases this
      exact no_ne n3 (t := 58) (by simp) rfl
  refine ⟨h.run.same fun k hk => ?_, h.frn.same fun k hk => ?_, o2.mono h.bel.size, fun e => nl (List.map_eq_nil_iff.1 e), q2, ?_, u2, ⟨_, m2⟩, kp h.su.cn rfl (Or.inl rfl) rfl, h.bel.trans (g'.below (fun k hk e => ?_) h.bel.size)⟩
  · obtain ⟨_, c, hx⟩ := h.run.tag hk
    rw [hx]
    exact kp hx rfl (Or.inl rfl) rfl
  · obtain ⟨_, c, hx⟩ := h.frn.tag hk
    rw [hx]
    exact kp hx rfl (Or.inr fun e => h.ne k e hk) rfl
  · exact (List.perm_append_right_iff _).1 (pm2.trans h.pm)
  · rcases e with h1 | h1 | h1 | h1 | h1
    · omega
    · have := (h.su.hq.row_ne h1).2.2.1; omega
    · have := h.tb k h1; omega
    · omega
    · omega

end
end Go.Proofs.Ybulkgfdm
