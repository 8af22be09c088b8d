/- stopBackOffs: the first loop. -/
import Derived.Test.YbulkgfdmMok
namespace Go.Proofs.Ybulkgfdm
open Go Go.Fr Go.RowKit

theorem below_setRow' (w : World) (g : Nat) (cs : Array Value) {B : Nat} (h : B ≤ g) : Below B w (w.setRow g cs) :=
  ⟨rfl, rfl, rfl, by simp [World.setRow], fun k hk => by
    simp only [World.setRow, Array.getElem?_modify]
    rw [if_neg (by omega)]⟩
/-- A new variable is made and set. -/
theorem newVar (w : World) (z cs : Array Value) (t : TypeId) : Below w.heap.size w ((w.alloc (.cells z t)).setRow w.heap.size cs) ∧ ((w.alloc (.cells z t)).setRow w.heap.size cs).heap[w.heap.size]? = some (.cells cs t (0, 0)) ∧ ((w.alloc (.cells z t)).setRow w.heap.size cs).heap.size = w.heap.size + 1 :=
  ⟨(below_new w _ (Nat.le_refl _)).trans (below_setRow' _ _ _ (Nat.le_refl _)), setRow_heap _ _ _ _ _ _ (heap_new w _), by rw [show ((w.alloc (.cells z t)).setRow w.heap.size cs).heap.size = (w.alloc (.cells z t)).heap.size from by simp [World.setRow], size_new]⟩

section
variable {N : Nat} {inf : Nat → TI} {C U mb cnt : Nat} {now : Int} {st : Nat} {S : List Value} {off : Bool} {calls : Nat} {w : World} {v : Value} {ts : List Nat} {M : MapL}
theorem stopV (h : HQ N inf C now st w v ts) (hl : ts.length ≤ 5000) (i t : Nat) (hi : ts[i]? = some t) :
    Calls Yba.prog 14 #[pv C, pv t] w fun e w' => e = .returned (.tuple #[]) ∧ ∃ v' ts', HQ N inf C now st w' v' ts' ∧ (ts' ++ [t]).Perm ts ∧ Chg w w' (fun k => k = C ∨ v.ownBlock = some k ∨ k ∈ ts) ∧ (∃ j, TimerAt w' t (inf t).due (inf t).start j (inf t).fire) ∧ v'.ownBlock = v.ownBlock := by
  have hpos : 0 < ts.length := by have := (List.getElem?_eq_some_iff.1 hi).1; omega
  obtain ⟨g, cap, rfl⟩ := own_row h.own hpos
  refine (stop_any hl h rfl i t hi).mono ?_
  rintro e w' ⟨he, ts', h1, h2, h3, h4⟩
  refine ⟨he, _, ts', h1, h2, h3.mono fun k _ hk => ?_, h4, rfl⟩
  rcases hk with h | h | h
  · exact Or.inl h
  · exact Or.inr (Or.inl (by rw [h]; rfl))
  · exact Or.inr (Or.inr h)

theorem Chg.obj {w w' : World} {m : Nat → Prop} (hc : Chg w w' m) {o : Obj} {k : Nat} (hx : w.heap[k]? = some o) (hm : ∀ k, m k → ∃ o', w.heap[k]? = some o' ∧ no [tg o] o' = true) : w'.heap[k]? = some o := hc.heap (fun hk => by
  obtain ⟨o', h1, h2⟩ := hm k hk
  rw [hx] at h1
  cases h1
  exact no_ne h2 (t := tg o) (by simp) rfl) hx
theorem no_sub {l l' : List Nat} {o : Obj} (h : no l o = true) (hs : ∀ t ∈ l', t ∈ l) : no l' o = true := by
  unfold no at h ⊢
  rw [List.all_eq_true] at h ⊢
  exact fun t ht => h t (hs t ht)
theorem Cx.keep {bx : Nat} {w' : World} (h : Cx inf bx U C mb M w) {m : Nat → Prop} (hc : Chg w w' m) (hm : ∀ k, m k → ∃ o, w.heap[k]? = some o ∧ no [34, 58, 1000, 73] o = true) : Cx inf bx U C mb M w' := by
  have hm1 : ∀ t : Nat, t ∈ [34, 58, 1000, 73] → ∀ k, m k → ∃ o, w.heap[k]? = some o ∧ no [t] o = true := fun t ht k hk => by
    obtain ⟨o, h1, h2⟩ := hm k hk
    exact ⟨o, h1, no_sub h2 (by simpa using ht)⟩
  obtain ⟨c, h1, h2, h3⟩ := h.ue
  refine ⟨hc.obj h.box (hm1 34 (by simp)), ⟨c, hc.obj h1 (hm1 58 (by simp)), h2, h3⟩, hc.obj h.map (hm1 1000 (by simp)), h.K, fun x t ht => ?_⟩
  obtain ⟨i, hi⟩ := h.tim x t ht
  exact ⟨i, hc.obj hi (hm1 73 (by simp))⟩
theorem OwnA.chg {α : Type} {enc : α → List Value} {k t N : Nat} {w w' : World} {v : Value} {l : List α} (h : OwnA enc k t N w v l) {m : Nat → Prop} (hc : Chg w w' m) (hm : ∀ g, m g → ∃ o, w.heap[g]? = some o ∧ no [t] o = true) : OwnA enc k t N w' v l :=
  h.same fun g hg => by
    obtain ⟨_, c, hx⟩ := h.tag hg
    rw [hx]
    exact hc.obj hx hm

theorem OwnA.mono {α : Type} {enc : α → List Value} {k t N N' : Nat} {w : World} {v : Value} {l : List α} (h : OwnA enc k t N w v l) (hn : N' ≤ N) : OwnA enc k t N' w v l := by
  refine ⟨h.1, ?_⟩
  rcases h.2 with h' | ⟨g, cap, cur, hv, hb, rest⟩
  · exact Or.inl h'
  · exact Or.inr ⟨g, cap, cur, hv, Nat.le_trans hn hb, rest⟩

structure RI (N : Nat) (inf : Nat → TI) (C U mb : Nat) (now : Int) (st : Nat) (M : MapL) (bx it : Nat) (w0 : World) (v : Value) (ts : List Nat) (seen l ts' : List Nat) (vq vk : Value) (w : World) : Prop where
  hq : HQ N inf C now st w vq ts'
  pm : (ts' ++ l.map (tmr M)).Perm ts
  cx : Cx inf bx U C mb M w
  itr : IterAt w it mb M seen
  nd : seen.Nodup
  lt : ∀ j ∈ seen, j < M.length
  ll : l = seen.filterMap (rk M)
  rest : ∀ (j x t : Nat), M[j]? = some (x, some t) → j ∉ seen → t ∈ ts'
  keys : OwnA kc 6 48 w0.heap.size w vk l
  ob : ∀ k, vq.ownBlock = some k → v.ownBlock = some k
  chg : Chg w0 w (fun k => (k = C ∨ v.ownBlock = some k ∨ k ∈ ts) ∨ w0.heap.size ≤ k)
theorem RI.below {bx it : Nat} {w0 w' : World} {seen l ts' : List Nat} {vq vk : Value} (h : RI N inf C U mb now st M bx it w0 v ts seen l ts' vq vk w) (hb : Below w.heap.size w w') : RI N inf C U mb now st M bx it w0 v ts seen l ts' vq vk w' :=
  ⟨h.hq.below hb, h.pm, h.cx.below hb, below_heap hb (lt_of_heap h.itr) h.itr, h.nd, h.lt, h.ll, h.rest, h.keys.below hb, h.ob, h.chg.trans (Chg.of_below hb)⟩
theorem rk_some {j x t : Nat} (h : M[j]? = some (x, some t)) : rk M j = some x := by unfold rk; rw [h]; rfl
theorem rk_none {j x : Nat} (h : M[j]? = some (x, none)) : rk M j = none := by unfold rk; rw [h]; rfl

theorem sortK {bx N' n c : Nat} {p : Option Addr} {l : List Nat} (hX : Cx inf bx U C mb M w) (hO : OwnA kc 6 48 N' w (.slice p n c) l) (hn : l.length = n) (hD : Keyd inf M l) (h12 : n ≤ 12) :
    Calls Yba.prog 15 #[.slice p n c, fnv bx] w fun e w' => e = .returned (.tuple #[]) ∧ ∃ L : List Nat, L.Perm l ∧ L.Pairwise (kl inf M) ∧ Chg w w' (fun k => (Value.slice p n c).ownBlock = some k) ∧ (0 < n → ∃ g, p = some ⟨g, 0, none⟩ ∧ RwA kc 48 w' g L) := by
  by_cases h0 : 0 < n
  · subst hn
    obtain ⟨g, cap, e, hb, hR⟩ := hO.row h0
    cases e
    refine sortf_any _ _ _ _ w h12 ((insk_any g l.length c l w h12 rfl hR hX hD).mono ?_)
    rintro e w' ⟨he, L, hs, hp, hpw⟩
    exact ⟨he, L, hp, hpw, hs.chg.mono (fun k _ hk => by rw [hk]; rfl), fun _ => ⟨g, rfl, hs.row⟩⟩
  · have hn0 : n = 0 := by omega
    subst hn0
    have hl0 : l = [] := List.length_eq_zero_iff.1 hn
    subst hl0
    refine sortf_any p 0 c (fnv bx) w h12 ((insk_nil (.slice p 0 c) (fnv bx) w).mono ?_)
    rintro e w' ⟨he, rfl⟩
    exact ⟨he, [], List.Perm.refl _, List.Pairwise.nil, Chg.refl _, fun h => absurd h (by omega)⟩

def kp (inf : Nat → TI) (M : MapL) (now : Int) (x : Nat) : Nat × Int := (x, (inf (tmr M x)).due - now)
theorem keptC_len (p : Nat × Int) : (keptC p).length = 7 := rfl
theorem keptC_one (p : Nat × Int) : ∀ u ∈ keptC p, u.oneCell' = true := by
  intro u hu
  rcases List.mem_append.1 hu with h | h
  · exact kc_one _ u h
  · rw [List.mem_singleton.1 h]; rfl
theorem built70 (x : Nat) (d : Int) : Yba.prog.built 70 [(0, kv x), (1, .int .i64 d)] = some (keptC (x, d)).toArray := by kernel_rfl

set_option maxRecDepth 8000 in
theorem stopAll_any (h : St N inf C U mb cnt now st S off calls w v ts M) (hM : MOk inf M ts) (hl : ts.length ≤ 5000) (hdue : ∀ t ∈ ts, -9223372036854775808 ≤ (inf t).due - now ∧ (inf t).due - now ≤ 9223372036854775807) :
    Calls Yba.prog 12 #[pv U] w fun e w' => ∃ vr, e = .returned vr ∧ ∃ L ts' vq, L.Perm ((runs M).map (·.1)) ∧ L.Pairwise (kl inf M) ∧ OwnA keptC 7 70 w.heap.size w' vr (L.map (kp inf M now)) ∧ (L = [] → vr = .slice none 0 0) ∧
      HQ N inf C now st w' vq ts' ∧ (ts' ++ (runs M).map (·.2)).Perm ts ∧ Chg w w' (fun k => k = C ∨ v.ownBlock = some k ∨ k ∈ ts ∨ k = mb) ∧ w'.heap[mb]? = some (.map #[] M.length) ∧ (∀ k, vq.ownBlock = some k → v.ownBlock = some k) := by
  refine calls_of Yba.func12 rfl Yba.ntmps12 rfl ?_
  refine WC.seq (WC.region ?_)
  refine WL.val rfl rfl (Runs.box rfl) ?_
  repeat (first | (refine WL.val ?_ ?_ (Runs.move rfl) ?_; rfl; rfl) | (refine WL.val ?_ ?_ (Runs.assign rfl) ?_; rfl; rfl) | (refine WL.val ?_ ?_ (Runs.extract rfl rfl) ?_; rfl; rfl) | (refine WL.val ?_ ?_ (Runs.nilCheck rfl) ?_; rfl; rfl) | (refine WL.val ?_ ?_ (Runs.pickT rfl rfl) ?_; rfl; rfl) | (refine WL.val ?_ ?_ (Runs.pickF rfl rfl) ?_; rfl; rfl) | (refine WL.val ?_ ?_ (Runs.len rfl sl22) ?_; rfl; rfl) | (refine WL.val ?_ ?_ (Runs.len rfl sl23) ?_; rfl; rfl) | (refine WL.val ?_ ?_ (Runs.len rfl sl27) ?_; rfl; rfl) | (refine WL.val ?_ ?_ (Runs.len rfl sl28) ?_; rfl; rfl) | (refine WL.val ?_ ?_ (Runs.len rfl sl39) ?_; rfl; rfl) | (refine WL.val ?_ ?_ (Runs.len rfl sl64) ?_; rfl; rfl) | (refine WL.val ?_ ?_ (Runs.len rfl sl68) ?_; rfl; rfl) | (refine WL.val ?_ ?_ (Runs.len rfl sl86) ?_; rfl; rfl) | (refine WL.val ?_ ?_ (Runs.len rfl sl113) ?_; rfl; rfl) | (refine WL.pass ?_ ?_ ?_; rfl; rfl))
  refine WL.nil ?_
  repeat (first | refine AtExit.thenRet ?_ | refine AtExit.thenExit ?_ | refine AtExit.blockRet ?_ | refine AtExit.blockEnd ?_ | refine AtExit.blockExit ?_ | (refine AtExit.blockPast ?_ ?_; rfl))
  refine AtExit.go ?_
  have b1 := below_new w (.cells (pv U).cells 34) (Nat.le_refl _)
  have x1 := heap_new w (.cells (pv U).cells 34)
  have z1 := size_new w (.cells (pv U).cells 34)
  generalize w.alloc _ = w1 at b1 x1 z1 ⊢
  obtain ⟨bx, hbx⟩ : ∃ b, b = w.heap.size := ⟨_, rfl⟩
  rw [← hbx] at x1 ⊢
  have cx1 : Cx inf bx U C mb M w1 := ⟨x1, ⟨_, below_heap b1 (lt_of_heap h.ue) h.ue, ue130 h.sl, ue0⟩, below_heap b1 (lt_of_heap h.map) h.map, hM.K, fun x t ht => by
    have hm : (x, some t) ∈ M := by
      clear h hM
      induction M with
      | nil => cases ht
      | cons p M ih =>
        obtain ⟨y, u⟩ := p
        unfold lookM at ht
        by_cases e : x = y
        · rw [if_pos e] at ht; cases ht; subst e; simp
        · rw [if_neg e] at ht; exact List.mem_cons_of_mem _ (ih ht)
    obtain ⟨j, hj, e⟩ := List.getElem_of_mem hm
    obtain ⟨i, hi, e'⟩ := List.getElem_of_mem (hM.live j x t (by rw [List.getElem?_eq_getElem hj, e]))
    exact ⟨i, (h.hq.tim i t (by rw [List.getElem?_eq_getElem hi, e'])).below b1⟩⟩
  have q1 := h.hq.below b1
  refine WC.seq (WC.region ?_)
  repeat (first | (refine WL.val ?_ ?_ (Runs.move rfl) ?_; rfl; rfl) | (refine WL.val ?_ ?_ (Runs.assign rfl) ?_; rfl; rfl) | (refine WL.val ?_ ?_ (Runs.extract rfl rfl) ?_; rfl; rfl) | (refine WL.val ?_ ?_ (Runs.nilCheck rfl) ?_; rfl; rfl) | (refine WL.val ?_ ?_ (Runs.pickT rfl rfl) ?_; rfl; rfl) | (refine WL.val ?_ ?_ (Runs.pickF rfl rfl) ?_; rfl; rfl) | (refine WL.val ?_ ?_ (Runs.len rfl sl22) ?_; rfl; rfl) | (refine WL.val ?_ ?_ (Runs.len rfl sl23) ?_; rfl; rfl) | (refine WL.val ?_ ?_ (Runs.len rfl sl27) ?_; rfl; rfl) | (refine WL.val ?_ ?_ (Runs.len rfl sl28) ?_; rfl; rfl) | (refine WL.val ?_ ?_ (Runs.len rfl sl39) ?_; rfl; rfl) | (refine WL.val ?_ ?_ (Runs.len rfl sl64) ?_; rfl; rfl) | (refine WL.val ?_ ?_ (Runs.len rfl sl68) ?_; rfl; rfl) | (refine WL.val ?_ ?_ (Runs.len rfl sl86) ?_; rfl; rfl) | (refine WL.val ?_ ?_ (Runs.len rfl sl113) ?_; rfl; rfl) | (refine WL.pass ?_ ?_ ?_; rfl; rfl))
  refine WL.nil ?_
  repeat (first | refine AtExit.thenRet ?_ | refine AtExit.thenExit ?_ | refine AtExit.blockRet ?_ | refine AtExit.blockEnd ?_ | refine AtExit.blockExit ?_ | (refine AtExit.blockPast ?_ ?_; rfl))
  refine AtExit.go ?_
  refine WC.cut (α := List Nat × List Nat × Value × Value) (fun | (_, _, _, vk) => [(1, pv bx), (2, .slice none 0 0), (3, vk)])
    (fun | (l, ts', vq, vk) => fun w' => l.Perm ((runs M).map (·.1)) ∧ HQ N inf C now st w' vq ts' ∧ (ts' ++ l.map (tmr M)).Perm ts ∧ Cx inf bx U C mb M w' ∧ OwnA kc 6 48 w.heap.size w' vk l ∧ (∀ k, vq.ownBlock = some k → v.ownBlock = some k) ∧
      Chg w w' (fun k => (k = C ∨ v.ownBlock = some k ∨ k ∈ ts) ∨ w.heap.size ≤ k)) ?_ ?_
  · refine WC.seq (WC.region ?_)
    refine WL.val rfl rfl (Runs.load rfl na34 (v := pv U) (by rw [cell_of cx1.box]; rfl)) ?_
    repeat (first | (refine WL.val ?_ ?_ (Runs.move rfl) ?_; rfl; rfl) | (refine WL.val ?_ ?_ (Runs.assign rfl) ?_; rfl; rfl) | (refine WL.val ?_ ?_ (Runs.extract rfl rfl) ?_; rfl; rfl) | (refine WL.val ?_ ?_ (Runs.nilCheck rfl) ?_; rfl; rfl) | (refine WL.val ?_ ?_ (Runs.pickT rfl rfl) ?_; rfl; rfl) | (refine WL.val ?_ ?_ (Runs.pickF rfl rfl) ?_; rfl; rfl) | (refine WL.val ?_ ?_ (Runs.len rfl sl22) ?_; rfl; rfl) | (refine WL.val ?_ ?_ (Runs.len rfl sl23) ?_; rfl; rfl) | (refine WL.val ?_ ?_ (Runs.len rfl sl27) ?_; rfl; rfl) | (refine WL.val ?_ ?_ (Runs.len rfl sl28) ?_; rfl; rfl) | (refine WL.val ?_ ?_ (Runs.len rfl sl39) ?_; rfl; rfl) | (refine WL.val ?_ ?_ (Runs.len rfl sl64) ?_; rfl; rfl) | (refine WL.val ?_ ?_ (Runs.len rfl sl68) ?_; rfl; rfl) | (refine WL.val ?_ ?_ (Runs.len rfl sl86) ?_; rfl; rfl) | (refine WL.val ?_ ?_ (Runs.len rfl sl113) ?_; rfl; rfl) | (refine WL.pass ?_ ?_ ?_; rfl; rfl))
    refine WL.val rfl rfl (Runs.fld rfl fl58_3) ?_
    refine WL.val rfl rfl (Runs.load rfl na56 (v := .map (some mb)) (by rw [cell_of (below_heap b1 (lt_of_heap h.ue) h.ue)]; exact ue130 h.sl)) ?_
    refine WL.val rfl rfl (Runs.range rfl cx1.map) ?_
    refine WL.nil ?_
    repeat (first | refine AtExit.thenRet ?_ | refine AtExit.thenExit ?_ | refine AtExit.blockRet ?_ | refine AtExit.blockEnd ?_ | refine AtExit.blockExit ?_ | (refine AtExit.blockPast ?_ ?_; rfl))
    refine AtExit.go ?_
    have b2 := below_new w1 (.mapIter (some mb) M.length #[] M.length) (Nat.le_refl _)
    have x2 := heap_new w1 (.mapIter (some mb) M.length #[] M.length)
    have cx2 := cx1.below b2
    have q2 := q1.below b2
    generalize w1.alloc _ = w2 at b2 x2 cx2 q2 ⊢
    obtain ⟨it, hit⟩ : ∃ b, b = w1.heap.size := ⟨_, rfl⟩
    rw [← hit] at x2 ⊢
    refine WC.block ?_
    refine WC.loop (α := List Nat × List Nat × List Nat × Value × Value) (fun | (_, _, _, _, vk) => [(1, pv bx), (2, .slice none 0 0), (3, vk), (13, pv it)])
      (fun | (seen, l, ts', vq, vk) => fun w' => RI N inf C U mb now st M bx it w v ts seen l ts' vq vk w') (fun | (seen, _) => M.length - seen.length) ([], [], ts, v, .slice none 0 0) (by repeat (first | exact Sub.nil _ | refine Sub.cons rfl ?_))
      ⟨q2, by simp, cx2, x2, List.nodup_nil, by simp, rfl, fun j x t hj _ => hM.live j x t hj, OwnA.nil kc_len, fun _ h => h, (Chg.of_below b1).trans (Chg.of_below b2)⟩ ?_
    rintro ⟨seen, l, ts', vq, vk⟩ w3 hI
    refine WC.seq (WC.region ?_)
    rcases next_run w3 it mb M seen hI.cx.map hI.itr 0 with ⟨hall, hrun⟩ | ⟨j, x, o, w4, hj, hns, hrun, hit4, hch⟩
    · refine WL.val rfl rfl (Runs.next rfl hrun) ?_
      repeat (first | (refine WL.val ?_ ?_ (Runs.move rfl) ?_; rfl; rfl) | (refine WL.val ?_ ?_ (Runs.assign rfl) ?_; rfl; rfl) | (refine WL.val ?_ ?_ (Runs.extract rfl rfl) ?_; rfl; rfl) | (refine WL.val ?_ ?_ (Runs.nilCheck rfl) ?_; rfl; rfl) | (refine WL.val ?_ ?_ (Runs.pickT rfl rfl) ?_; rfl; rfl) | (refine WL.val ?_ ?_ (Runs.pickF rfl rfl) ?_; rfl; rfl) | (refine WL.val ?_ ?_ (Runs.len rfl sl22) ?_; rfl; rfl) | (refine WL.val ?_ ?_ (Runs.len rfl sl23) ?_; rfl; rfl) | (refine WL.val ?_ ?_ (Runs.len rfl sl27) ?_; rfl; rfl) | (refine WL.val ?_ ?_ (Runs.len rfl sl28) ?_; rfl; rfl) | (refine WL.val ?_ ?_ (Runs.len rfl sl39) ?_; rfl; rfl) | (refine WL.val ?_ ?_ (Runs.len rfl sl64) ?_; rfl; rfl) | (refine WL.val ?_ ?_ (Runs.len rfl sl68) ?_; rfl; rfl) | (refine WL.val ?_ ?_ (Runs.len rfl sl86) ?_; rfl; rfl) | (refine WL.val ?_ ?_ (Runs.len rfl sl113) ?_; rfl; rfl) | (refine WL.pass ?_ ?_ ?_; rfl; rfl))
      refine WL.nil ?_
      repeat (first | refine AtExit.thenRet ?_ | refine AtExit.thenExit ?_ | refine AtExit.blockRet ?_ | refine AtExit.blockEnd ?_ | refine AtExit.blockExit ?_ | (refine AtExit.blockPast ?_ ?_; rfl))
      refine AtExit.go ?_
      refine WC.seq (WC.condF rfl ?_)
      refine WC.exit ?_
      repeat (first | refine AtExit.thenRet ?_ | refine AtExit.thenExit ?_ | refine AtExit.blockRet ?_ | refine AtExit.blockEnd ?_ | refine AtExit.blockExit ?_ | (refine AtExit.blockPast ?_ ?_; rfl))
      refine AtExit.inv fun av hv => ⟨(l, ts', vq, vk), hv.sub (by repeat (first | exact Sub.nil _ | refine Sub.cons rfl ?_)), ?_, hI.hq, hI.pm, hI.cx, hI.keys, hI.ob, hI.chg⟩
      rw [hI.ll, ← rk_all]
      exact (seen_all hI.nd hI.lt hall).filterMap _
    · refine WL.val rfl rfl (Runs.next rfl hrun) ?_
      repeat (first | (refine WL.val ?_ ?_ (Runs.move rfl) ?_; rfl; rfl) | (refine WL.val ?_ ?_ (Runs.assign rfl) ?_; rfl; rfl) | (refine WL.val ?_ ?_ (Runs.extract rfl rfl) ?_; rfl; rfl) | (refine WL.val ?_ ?_ (Runs.nilCheck rfl) ?_; rfl; rfl) | (refine WL.val ?_ ?_ (Runs.pickT rfl rfl) ?_; rfl; rfl) | (refine WL.val ?_ ?_ (Runs.pickF rfl rfl) ?_; rfl; rfl) | (refine WL.val ?_ ?_ (Runs.len rfl sl22) ?_; rfl; rfl) | (refine WL.val ?_ ?_ (Runs.len rfl sl23) ?_; rfl; rfl) | (refine WL.val ?_ ?_ (Runs.len rfl sl27) ?_; rfl; rfl) | (refine WL.val ?_ ?_ (Runs.len rfl sl28) ?_; rfl; rfl) | (refine WL.val ?_ ?_ (Runs.len rfl sl39) ?_; rfl; rfl) | (refine WL.val ?_ ?_ (Runs.len rfl sl64) ?_; rfl; rfl) | (refine WL.val ?_ ?_ (Runs.len rfl sl68) ?_; rfl; rfl) | (refine WL.val ?_ ?_ (Runs.len rfl sl86) ?_; rfl; rfl) | (refine WL.val ?_ ?_ (Runs.len rfl sl113) ?_; rfl; rfl) | (refine WL.pass ?_ ?_ ?_; rfl; rfl))
      refine WL.nil ?_
      repeat (first | refine AtExit.thenRet ?_ | refine AtExit.thenExit ?_ | refine AtExit.blockRet ?_ | refine AtExit.blockEnd ?_ | refine AtExit.blockExit ?_ | (refine AtExit.blockPast ?_ ?_; rfl))
      refine AtExit.go ?_
      refine WC.seq (WC.condT rfl ?_)
      refine WC.skip ?_
      repeat (first | refine AtExit.thenRet ?_ | refine AtExit.thenExit ?_ | refine AtExit.blockRet ?_ | refine AtExit.blockEnd ?_ | refine AtExit.blockExit ?_ | (refine AtExit.blockPast ?_ ?_; rfl))
      refine AtExit.go ?_
      have hjl : j < M.length := (List.getElem?_eq_some_iff.1 hj).1
      have nd4 : (seen ++ [j]).Nodup := by
        rw [List.nodup_append]
        refine ⟨hI.nd, by simp, fun a ha b hb e => hns ?_⟩
        rw [List.mem_singleton.1 hb] at e
        rw [← e]; exact ha
      have lt4 : ∀ i ∈ seen ++ [j], i < M.length := fun i hi => by
        rcases List.mem_append.1 hi with h | h
        · exact hI.lt i h
        · rw [List.mem_singleton.1 h]; exact hjl
      have short := nodup_short nd4 lt4
      rw [List.length_append, List.length_singleton] at short
      have hitk : ∀ (l' : List Nat), no l' (.mapIter (some mb) M.length seen.toArray M.length) = true → ∀ k, k = it → ∃ o', w3.heap[k]? = some o' ∧ no l' o' = true := fun l' h1 k hk => ⟨_, by rw [hk]; exact hI.itr, h1⟩
      have q4 := hI.hq.chg hch (fun k hk => by subst hk; exact ⟨_, hI.itr, rfl, Or.inl rfl⟩)
      have cx4 := hI.cx.keep hch (hitk _ rfl)
      have ky4 := hI.keys.chg hch (hitk _ rfl)
      have g4 : Chg w w4 (fun k => (k = C ∨ v.ownBlock = some k ∨ k ∈ ts) ∨ w.heap.size ≤ k) := hI.chg.trans (hch.mono fun k _ hk => Or.inr (by omega))
      refine WC.block ?_
      refine WC.seq (WC.region ?_)
      refine WL.val rfl rfl (Runs.entry rfl (entry_run w4 it mb M seen j x o cx4.map hit4 hj)) ?_
      repeat (first | (refine WL.val ?_ ?_ (Runs.move rfl) ?_; rfl; rfl) | (refine WL.val ?_ ?_ (Runs.assign rfl) ?_; rfl; rfl) | (refine WL.val ?_ ?_ (Runs.extract rfl rfl) ?_; rfl; rfl) | (refine WL.val ?_ ?_ (Runs.nilCheck rfl) ?_; rfl; rfl) | (refine WL.val ?_ ?_ (Runs.pickT rfl rfl) ?_; rfl; rfl) | (refine WL.val ?_ ?_ (Runs.pickF rfl rfl) ?_; rfl; rfl) | (refine WL.val ?_ ?_ (Runs.len rfl sl22) ?_; rfl; rfl) | (refine WL.val ?_ ?_ (Runs.len rfl sl23) ?_; rfl; rfl) | (refine WL.val ?_ ?_ (Runs.len rfl sl27) ?_; rfl; rfl) | (refine WL.val ?_ ?_ (Runs.len rfl sl28) ?_; rfl; rfl) | (refine WL.val ?_ ?_ (Runs.len rfl sl39) ?_; rfl; rfl) | (refine WL.val ?_ ?_ (Runs.len rfl sl64) ?_; rfl; rfl) | (refine WL.val ?_ ?_ (Runs.len rfl sl68) ?_; rfl; rfl) | (refine WL.val ?_ ?_ (Runs.len rfl sl86) ?_; rfl; rfl) | (refine WL.val ?_ ?_ (Runs.len rfl sl113) ?_; rfl; rfl) | (refine WL.pass ?_ ?_ ?_; rfl; rfl))
      refine WL.val rfl rfl (Runs.alloc in48) ?_
      refine WL.skip rfl (RunsS.storeRow rfl rfl (one48 x) sz48 (heap_new _ _) rfl) ?_
      repeat (first | (refine WL.val ?_ ?_ (Runs.move rfl) ?_; rfl; rfl) | (refine WL.val ?_ ?_ (Runs.assign rfl) ?_; rfl; rfl) | (refine WL.val ?_ ?_ (Runs.extract rfl rfl) ?_; rfl; rfl) | (refine WL.val ?_ ?_ (Runs.nilCheck rfl) ?_; rfl; rfl) | (refine WL.val ?_ ?_ (Runs.pickT rfl rfl) ?_; rfl; rfl) | (refine WL.val ?_ ?_ (Runs.pickF rfl rfl) ?_; rfl; rfl) | (refine WL.val ?_ ?_ (Runs.len rfl sl22) ?_; rfl; rfl) | (refine WL.val ?_ ?_ (Runs.len rfl sl23) ?_; rfl; rfl) | (refine WL.val ?_ ?_ (Runs.len rfl sl27) ?_; rfl; rfl) | (refine WL.val ?_ ?_ (Runs.len rfl sl28) ?_; rfl; rfl) | (refine WL.val ?_ ?_ (Runs.len rfl sl39) ?_; rfl; rfl) | (refine WL.val ?_ ?_ (Runs.len rfl sl64) ?_; rfl; rfl) | (refine WL.val ?_ ?_ (Runs.len rfl sl68) ?_; rfl; rfl) | (refine WL.val ?_ ?_ (Runs.len rfl sl86) ?_; rfl; rfl) | (refine WL.val ?_ ?_ (Runs.len rfl sl113) ?_; rfl; rfl) | (refine WL.pass ?_ ?_ ?_; rfl; rfl))
      refine WL.nil ?_
      repeat (first | refine AtExit.thenRet ?_ | refine AtExit.thenExit ?_ | refine AtExit.blockRet ?_ | refine AtExit.blockEnd ?_ | refine AtExit.blockExit ?_ | (refine AtExit.blockPast ?_ ?_; rfl))
      refine AtExit.go ?_
      obtain ⟨b5, x5, z5⟩ := newVar w4 (Value.agg #[.string ⟨#[]⟩, .string ⟨#[]⟩, .int .u8 0, .int .u32 0, .bool false, .bool false]).cells (kc x).toArray 48
      generalize (w4.alloc _).setRow _ _ = w5 at b5 x5 z5 ⊢
      obtain ⟨bb, hbb⟩ : ∃ b, b = w4.heap.size := ⟨_, rfl⟩
      rw [← hbb] at x5 ⊢
      have q5 := q4.below b5
      have cx5 := cx4.below b5
      have ky5 := ky4.below b5
      have g5 := g4.trans (Chg.of_below b5)
      have it5 : IterAt w5 it mb M (seen ++ [j]) := below_heap b5 (lt_of_heap hit4) hit4
      cases o with
      | none =>
        refine WC.seq (WC.region ?_)
        repeat (first | (refine WL.val ?_ ?_ (Runs.move rfl) ?_; rfl; rfl) | (refine WL.val ?_ ?_ (Runs.assign rfl) ?_; rfl; rfl) | (refine WL.val ?_ ?_ (Runs.extract rfl rfl) ?_; rfl; rfl) | (refine WL.val ?_ ?_ (Runs.nilCheck rfl) ?_; rfl; rfl) | (refine WL.val ?_ ?_ (Runs.pickT rfl rfl) ?_; rfl; rfl) | (refine WL.val ?_ ?_ (Runs.pickF rfl rfl) ?_; rfl; rfl) | (refine WL.val ?_ ?_ (Runs.len rfl sl22) ?_; rfl; rfl) | (refine WL.val ?_ ?_ (Runs.len rfl sl23) ?_; rfl; rfl) | (refine WL.val ?_ ?_ (Runs.len rfl sl27) ?_; rfl; rfl) | (refine WL.val ?_ ?_ (Runs.len rfl sl28) ?_; rfl; rfl) | (refine WL.val ?_ ?_ (Runs.len rfl sl39) ?_; rfl; rfl) | (refine WL.val ?_ ?_ (Runs.len rfl sl64) ?_; rfl; rfl) | (refine WL.val ?_ ?_ (Runs.len rfl sl68) ?_; rfl; rfl) | (refine WL.val ?_ ?_ (Runs.len rfl sl86) ?_; rfl; rfl) | (refine WL.val ?_ ?_ (Runs.len rfl sl113) ?_; rfl; rfl) | (refine WL.pass ?_ ?_ ?_; rfl; rfl))
        refine WL.val rfl rfl (Runs.neqPN rfl pt42 (r := false) rfl) ?_
        refine WL.nil ?_
        repeat (first | refine AtExit.thenRet ?_ | refine AtExit.thenExit ?_ | refine AtExit.blockRet ?_ | refine AtExit.blockEnd ?_ | refine AtExit.blockExit ?_ | (refine AtExit.blockPast ?_ ?_; rfl))
        refine AtExit.go ?_
        refine WC.condF rfl ?_
        refine WC.skip ?_
        repeat (first | refine AtExit.thenRet ?_ | refine AtExit.thenExit ?_ | refine AtExit.blockRet ?_ | refine AtExit.blockEnd ?_ | refine AtExit.blockExit ?_ | (refine AtExit.blockPast ?_ ?_; rfl))
        refine AtExit.inv fun av hv => ⟨(seen ++ [j], l, ts', vq, vk), hv.sub (by repeat (first | exact Sub.nil _ | refine Sub.cons rfl ?_)), ⟨q5, hI.pm, cx5, it5, nd4, lt4, ?_, fun i y t hi hn => hI.rest i y t hi (fun e => hn (by simp [e])), ky5, hI.ob, g5⟩, ?_⟩
        · rw [List.filterMap_append, ← hI.ll, List.filterMap_cons, rk_none hj]; simp
        · show M.length - (seen ++ [j]).length < M.length - seen.length
          rw [List.length_append, List.length_singleton]; omega
      | some t =>
        refine WC.seq (WC.region ?_)
        repeat (first | (refine WL.val ?_ ?_ (Runs.move rfl) ?_; rfl; rfl) | (refine WL.val ?_ ?_ (Runs.assign rfl) ?_; rfl; rfl) | (refine WL.val ?_ ?_ (Runs.extract rfl rfl) ?_; rfl; rfl) | (refine WL.val ?_ ?_ (Runs.nilCheck rfl) ?_; rfl; rfl) | (refine WL.val ?_ ?_ (Runs.pickT rfl rfl) ?_; rfl; rfl) | (refine WL.val ?_ ?_ (Runs.pickF rfl rfl) ?_; rfl; rfl) | (refine WL.val ?_ ?_ (Runs.len rfl sl22) ?_; rfl; rfl) | (refine WL.val ?_ ?_ (Runs.len rfl sl23) ?_; rfl; rfl) | (refine WL.val ?_ ?_ (Runs.len rfl sl27) ?_; rfl; rfl) | (refine WL.val ?_ ?_ (Runs.len rfl sl28) ?_; rfl; rfl) | (refine WL.val ?_ ?_ (Runs.len rfl sl39) ?_; rfl; rfl) | (refine WL.val ?_ ?_ (Runs.len rfl sl64) ?_; rfl; rfl) | (refine WL.val ?_ ?_ (Runs.len rfl sl68) ?_; rfl; rfl) | (refine WL.val ?_ ?_ (Runs.len rfl sl86) ?_; rfl; rfl) | (refine WL.val ?_ ?_ (Runs.len rfl sl113) ?_; rfl; rfl) | (refine WL.pass ?_ ?_ ?_; rfl; rfl))
        refine WL.val rfl rfl (Runs.neqPN rfl pt42 (r := true) rfl) ?_
        refine WL.nil ?_
        repeat (first | refine AtExit.thenRet ?_ | refine AtExit.thenExit ?_ | refine AtExit.blockRet ?_ | refine AtExit.blockEnd ?_ | refine AtExit.blockExit ?_ | (refine AtExit.blockPast ?_ ?_; rfl))
        refine AtExit.go ?_
        refine WC.condT rfl ?_
        obtain ⟨c5, u5, _, u50⟩ := cx5.ue
        have hts : t ∈ ts' := hI.rest j x t hj hns
        obtain ⟨i, hi, ei⟩ := List.getElem_of_mem hts
        have hit' : ts'[i]? = some t := by rw [List.getElem?_eq_getElem hi, ei]
        have hlen : ts'.length ≤ 5000 := by have := hI.pm.length_eq; rw [List.length_append] at this; omega
        refine WC.seq (WC.region ?_)
        refine WL.val rfl rfl (Runs.load rfl na34 (v := pv U) (by rw [cell_of cx5.box]; rfl)) ?_
        repeat (first | (refine WL.val ?_ ?_ (Runs.move rfl) ?_; rfl; rfl) | (refine WL.val ?_ ?_ (Runs.assign rfl) ?_; rfl; rfl) | (refine WL.val ?_ ?_ (Runs.extract rfl rfl) ?_; rfl; rfl) | (refine WL.val ?_ ?_ (Runs.nilCheck rfl) ?_; rfl; rfl) | (refine WL.val ?_ ?_ (Runs.pickT rfl rfl) ?_; rfl; rfl) | (refine WL.val ?_ ?_ (Runs.pickF rfl rfl) ?_; rfl; rfl) | (refine WL.val ?_ ?_ (Runs.len rfl sl22) ?_; rfl; rfl) | (refine WL.val ?_ ?_ (Runs.len rfl sl23) ?_; rfl; rfl) | (refine WL.val ?_ ?_ (Runs.len rfl sl27) ?_; rfl; rfl) | (refine WL.val ?_ ?_ (Runs.len rfl sl28) ?_; rfl; rfl) | (refine WL.val ?_ ?_ (Runs.len rfl sl39) ?_; rfl; rfl) | (refine WL.val ?_ ?_ (Runs.len rfl sl64) ?_; rfl; rfl) | (refine WL.val ?_ ?_ (Runs.len rfl sl68) ?_; rfl; rfl) | (refine WL.val ?_ ?_ (Runs.len rfl sl86) ?_; rfl; rfl) | (refine WL.val ?_ ?_ (Runs.len rfl sl113) ?_; rfl; rfl) | (refine WL.pass ?_ ?_ ?_; rfl; rfl))
        refine WL.val rfl rfl (Runs.fld rfl fl58_0) ?_
        refine WL.val rfl rfl (Runs.load rfl na26 (v := pv C) (by rw [cell_of u5]; exact u50)) ?_
        repeat (first | (refine WL.val ?_ ?_ (Runs.move rfl) ?_; rfl; rfl) | (refine WL.val ?_ ?_ (Runs.assign rfl) ?_; rfl; rfl) | (refine WL.val ?_ ?_ (Runs.extract rfl rfl) ?_; rfl; rfl) | (refine WL.val ?_ ?_ (Runs.nilCheck rfl) ?_; rfl; rfl) | (refine WL.val ?_ ?_ (Runs.pickT rfl rfl) ?_; rfl; rfl) | (refine WL.val ?_ ?_ (Runs.pickF rfl rfl) ?_; rfl; rfl) | (refine WL.val ?_ ?_ (Runs.len rfl sl22) ?_; rfl; rfl) | (refine WL.val ?_ ?_ (Runs.len rfl sl23) ?_; rfl; rfl) | (refine WL.val ?_ ?_ (Runs.len rfl sl27) ?_; rfl; rfl) | (refine WL.val ?_ ?_ (Runs.len rfl sl28) ?_; rfl; rfl) | (refine WL.val ?_ ?_ (Runs.len rfl sl39) ?_; rfl; rfl) | (refine WL.val ?_ ?_ (Runs.len rfl sl64) ?_; rfl; rfl) | (refine WL.val ?_ ?_ (Runs.len rfl sl68) ?_; rfl; rfl) | (refine WL.val ?_ ?_ (Runs.len rfl sl86) ?_; rfl; rfl) | (refine WL.val ?_ ?_ (Runs.len rfl sl113) ?_; rfl; rfl) | (refine WL.pass ?_ ?_ ?_; rfl; rfl))
        refine WL.call rfl rfl (RunsC.call rfl en14) (stopV q5 hlen i t hit') ?_
        rintro e w6 ⟨rfl, vq6, ts6, q6, p6, g6, ⟨jj, t6⟩, ob6⟩
        refine ⟨_, rfl, ?_⟩
        refine WL.nil ?_
        repeat (first | refine AtExit.thenRet ?_ | refine AtExit.thenExit ?_ | refine AtExit.blockRet ?_ | refine AtExit.blockEnd ?_ | refine AtExit.blockExit ?_ | (refine AtExit.blockPast ?_ ?_; rfl))
        refine AtExit.go ?_
        have k6 : ∀ {k : Nat} {o : Obj}, w5.heap[k]? = some o → no [30, 73] o = true → no [42] o = true → w6.heap[k]? = some o := fun hx h1 h2 => q5.keep g6 hx ⟨h1, Or.inl h2⟩
        have x6 := k6 x5 rfl rfl
        have it6 : IterAt w6 it mb M (seen ++ [j]) := k6 it5 rfl rfl
        have ky6 : OwnA kc 6 48 w.heap.size w6 vk l := ky5.same fun g hg => by
          obtain ⟨_, c, hx⟩ := ky5.tag hg
          rw [hx]
          exact k6 hx rfl rfl
        have cx6 : Cx inf bx U C mb M w6 := ⟨k6 cx5.box rfl rfl, by
            obtain ⟨c, u1, u2, u3⟩ := cx5.ue
            exact ⟨c, k6 u1 rfl rfl, u2, u3⟩, k6 cx5.map rfl rfl, hM.K, fun y u hu => by
            by_cases hut : u ∈ ts'
            · rcases List.mem_append.1 (p6.mem_iff.2 hut) with h1 | h1
              · obtain ⟨a, ha, ea⟩ := List.getElem_of_mem h1
                exact ⟨a, q6.tim a u (by rw [List.getElem?_eq_getElem ha, ea])⟩
              · rw [List.mem_singleton.1 h1]; exact ⟨jj, t6⟩
            · obtain ⟨a, ha⟩ := cx5.tim y u hu
              refine ⟨a, g6.heap (fun hk => ?_) ha⟩
              rcases hk with h1 | h1 | h1
              · subst h1
                unfold TimerAt at ha
                rw [q5.clk] at ha
                cases ha
              · rcases q5.own.2 with ⟨rfl, _⟩ | ⟨g, cap, cur, rfl, _, hg, _⟩
                · cases h1
                · cases h1
                  unfold TimerAt at ha
                  rw [hg] at ha
                  cases ha
              · exact hut h1⟩
        have sub6 : ∀ k, k ∈ ts' → k ∈ ts := fun k hk => hI.pm.mem_iff.1 (List.mem_append_left _ hk)
        have g6' : Chg w w6 (fun k => (k = C ∨ v.ownBlock = some k ∨ k ∈ ts) ∨ w.heap.size ≤ k) := g5.trans (g6.mono fun k _ hk => by
          rcases hk with h1 | h1 | h1
          · exact Or.inl (Or.inl h1)
          · exact Or.inl (Or.inr (Or.inl (hI.ob k h1)))
          · exact Or.inl (Or.inr (Or.inr (sub6 k h1))))
        have hN6 : w.heap.size ≤ w6.heap.size := g6'.size
        have hll : l.length < 5000 := by have := hI.pm.length_eq; rw [List.length_append, List.length_map] at this; have := List.length_pos_of_mem hts; omega
        obtain ⟨vk7, w7, r7, ky7, g7, loc7, _⟩ := OwnA.add kc_len kc_one Yba.underlying86 in48 rfl (by omega) (by omega) ky6 hN6 hll x
        have kk7 : ∀ (l' : List Nat), no l' (.cells #[] 48 (0, 0)) = true → ∀ k, vk.ownBlock = some k → ∃ o', w6.heap[k]? = some o' ∧ no l' o' = true := fun l' h1 k hk => by
          obtain ⟨_, c, hx⟩ := ky6.tag hk
          exact ⟨_, hx, h1⟩
        refine WC.region ?_
        repeat (first | (refine WL.val ?_ ?_ (Runs.move rfl) ?_; rfl; rfl) | (refine WL.val ?_ ?_ (Runs.assign rfl) ?_; rfl; rfl) | (refine WL.val ?_ ?_ (Runs.extract rfl rfl) ?_; rfl; rfl) | (refine WL.val ?_ ?_ (Runs.nilCheck rfl) ?_; rfl; rfl) | (refine WL.val ?_ ?_ (Runs.pickT rfl rfl) ?_; rfl; rfl) | (refine WL.val ?_ ?_ (Runs.pickF rfl rfl) ?_; rfl; rfl) | (refine WL.val ?_ ?_ (Runs.len rfl sl22) ?_; rfl; rfl) | (refine WL.val ?_ ?_ (Runs.len rfl sl23) ?_; rfl; rfl) | (refine WL.val ?_ ?_ (Runs.len rfl sl27) ?_; rfl; rfl) | (refine WL.val ?_ ?_ (Runs.len rfl sl28) ?_; rfl; rfl) | (refine WL.val ?_ ?_ (Runs.len rfl sl39) ?_; rfl; rfl) | (refine WL.val ?_ ?_ (Runs.len rfl sl64) ?_; rfl; rfl) | (refine WL.val ?_ ?_ (Runs.len rfl sl68) ?_; rfl; rfl) | (refine WL.val ?_ ?_ (Runs.len rfl sl86) ?_; rfl; rfl) | (refine WL.val ?_ ?_ (Runs.len rfl sl113) ?_; rfl; rfl) | (refine WL.pass ?_ ?_ ?_; rfl; rfl))
        refine WL.val rfl rfl (Runs.loadAgg (cs := kc x) rfl na48 sz48 (fun j v hv => by rw [cell_of x6, Nat.zero_add]; exact (List.getElem?_toArray).trans hv)) ?_
        refine WL.val rfl rfl (Runs.sliceK rfl Yba.underlying86 in48 (by omega) (by omega) (by kernel_rfl)) ?_
        refine WL.val rfl rfl (Runs.append rfl r7) ?_
        repeat (first | (refine WL.val ?_ ?_ (Runs.move rfl) ?_; rfl; rfl) | (refine WL.val ?_ ?_ (Runs.assign rfl) ?_; rfl; rfl) | (refine WL.val ?_ ?_ (Runs.extract rfl rfl) ?_; rfl; rfl) | (refine WL.val ?_ ?_ (Runs.nilCheck rfl) ?_; rfl; rfl) | (refine WL.val ?_ ?_ (Runs.pickT rfl rfl) ?_; rfl; rfl) | (refine WL.val ?_ ?_ (Runs.pickF rfl rfl) ?_; rfl; rfl) | (refine WL.val ?_ ?_ (Runs.len rfl sl22) ?_; rfl; rfl) | (refine WL.val ?_ ?_ (Runs.len rfl sl23) ?_; rfl; rfl) | (refine WL.val ?_ ?_ (Runs.len rfl sl27) ?_; rfl; rfl) | (refine WL.val ?_ ?_ (Runs.len rfl sl28) ?_; rfl; rfl) | (refine WL.val ?_ ?_ (Runs.len rfl sl39) ?_; rfl; rfl) | (refine WL.val ?_ ?_ (Runs.len rfl sl64) ?_; rfl; rfl) | (refine WL.val ?_ ?_ (Runs.len rfl sl68) ?_; rfl; rfl) | (refine WL.val ?_ ?_ (Runs.len rfl sl86) ?_; rfl; rfl) | (refine WL.val ?_ ?_ (Runs.len rfl sl113) ?_; rfl; rfl) | (refine WL.pass ?_ ?_ ?_; rfl; rfl))
        refine WL.nil ?_
        repeat (first | refine AtExit.thenRet ?_ | refine AtExit.thenExit ?_ | refine AtExit.blockRet ?_ | refine AtExit.blockEnd ?_ | refine AtExit.blockExit ?_ | (refine AtExit.blockPast ?_ ?_; rfl))
        refine AtExit.inv fun av hv => ⟨(seen ++ [j], l ++ [x], ts6, vq6, vk7), hv.sub (by repeat (first | exact Sub.nil _ | refine Sub.cons rfl ?_)), ⟨?_, ?_, cx6.keep g7 (kk7 _ rfl), ?_, nd4, lt4, ?_, ?_, ky7, fun k hk => hI.ob k (by rw [← ob6]; exact hk), ?_⟩, ?_⟩
        · exact q6.chg g7 (fun k hk => by
            obtain ⟨_, c, hx⟩ := ky6.tag hk
            exact ⟨_, hx, rfl, Or.inl rfl⟩)
        · rw [List.map_append, List.map_singleton, tmr_of (look_of hM.nd (List.mem_of_getElem? hj))]
          refine List.Perm.trans ?_ hI.pm
          refine List.Perm.trans ?_ (p6.append_right _)
          rw [List.append_assoc]
          exact List.Perm.append_left _ List.perm_append_comm
        · exact g7.obj it6 (kk7 _ rfl)
        · rw [List.filterMap_append, ← hI.ll, List.filterMap_cons, rk_some hj]; simp
        · intro i' y u hi' hn'
          have h1 : u ∈ ts' := hI.rest i' y u hi' (fun e => hn' (by simp [e]))
          rcases List.mem_append.1 (p6.mem_iff.2 h1) with h2 | h2
          · exact h2
          · rw [List.mem_singleton.1 h2] at hi'
            exact absurd (hM.inj _ _ _ _ _ hi' hj) (fun e => hn' (by simp [e]))
        · refine g6'.trans (g7.mono fun k _ hk => Or.inr (ky6.tag hk).1)
        · show M.length - (seen ++ [j]).length < M.length - seen.length
          rw [List.length_append, List.length_singleton]; omega
  rintro ⟨l, ts', vq, vk⟩ w3 ⟨hp3, q3, pm3, cx3, ky3, ob3, g3⟩
  have hD := hM.keyd hp3
  have h12 : l.length ≤ 12 := Nat.le_trans (nodup_short hD.nd (fun x hx => (hD.ok x hx).1)) (by omega)
  obtain ⟨p, c, rfl⟩ := ky3.shape
  refine WC.seq (WC.region ?_)
  repeat (first | (refine WL.val ?_ ?_ (Runs.move rfl) ?_; rfl; rfl) | (refine WL.val ?_ ?_ (Runs.assign rfl) ?_; rfl; rfl) | (refine WL.val ?_ ?_ (Runs.extract rfl rfl) ?_; rfl; rfl) | (refine WL.val ?_ ?_ (Runs.nilCheck rfl) ?_; rfl; rfl) | (refine WL.val ?_ ?_ (Runs.pickT rfl rfl) ?_; rfl; rfl) | (refine WL.val ?_ ?_ (Runs.pickF rfl rfl) ?_; rfl; rfl) | (refine WL.val ?_ ?_ (Runs.len rfl sl22) ?_; rfl; rfl) | (refine WL.val ?_ ?_ (Runs.len rfl sl23) ?_; rfl; rfl) | (refine WL.val ?_ ?_ (Runs.len rfl sl27) ?_; rfl; rfl) | (refine WL.val ?_ ?_ (Runs.len rfl sl28) ?_; rfl; rfl) | (refine WL.val ?_ ?_ (Runs.len rfl sl39) ?_; rfl; rfl) | (refine WL.val ?_ ?_ (Runs.len rfl sl64) ?_; rfl; rfl) | (refine WL.val ?_ ?_ (Runs.len rfl sl68) ?_; rfl; rfl) | (refine WL.val ?_ ?_ (Runs.len rfl sl86) ?_; rfl; rfl) | (refine WL.val ?_ ?_ (Runs.len rfl sl113) ?_; rfl; rfl) | (refine WL.pass ?_ ?_ ?_; rfl; rfl))
  refine WL.val rfl rfl (Runs.mkFunc rfl) ?_
  refine WL.call rfl rfl (RunsC.call rfl en15) (sortK cx3 ky3 rfl hD h12) ?_
  rintro e w4 ⟨rfl, L, pL, sL, g4, row4⟩
  refine ⟨_, rfl, ?_⟩
  refine WL.nil ?_
  repeat (first | refine AtExit.thenRet ?_ | refine AtExit.thenExit ?_ | refine AtExit.blockRet ?_ | refine AtExit.blockEnd ?_ | refine AtExit.blockExit ?_ | (refine AtExit.blockPast ?_ ?_; rfl))
  refine AtExit.go ?_
  have kk4 : ∀ (l' : List Nat), no l' (.cells #[] 48 (0, 0)) = true → ∀ k, (Value.slice p l.length c).ownBlock = some k → ∃ o', w3.heap[k]? = some o' ∧ no l' o' = true := fun l' h1 k hk => by
    obtain ⟨_, c, hx⟩ := ky3.tag hk
    exact ⟨_, hx, h1⟩
  have q4 := q3.chg g4 (fun k hk => by
    obtain ⟨_, c, hx⟩ := ky3.tag hk
    exact ⟨_, hx, rfl, Or.inl rfl⟩)
  have cx4 := cx3.keep g4 (kk4 _ rfl)
  have g4' : Chg w w4 (fun k => (k = C ∨ v.ownBlock = some k ∨ k ∈ ts) ∨ w.heap.size ≤ k) := g3.trans (g4.mono fun k _ hk => Or.inr (ky3.tag hk).1)
  have hLl : L.length = l.length := pL.length_eq
  have hLD : ∀ x ∈ L, x < 9 ∧ ∃ t, lookM x M = some (some t) := fun x hx => hD.ok x (pL.mem_iff.1 hx)
  have hN4 : w.heap.size ≤ w4.heap.size := g4'.size
  refine WC.seq (WC.region ?_)
  repeat (first | (refine WL.val ?_ ?_ (Runs.move rfl) ?_; rfl; rfl) | (refine WL.val ?_ ?_ (Runs.assign rfl) ?_; rfl; rfl) | (refine WL.val ?_ ?_ (Runs.extract rfl rfl) ?_; rfl; rfl) | (refine WL.val ?_ ?_ (Runs.nilCheck rfl) ?_; rfl; rfl) | (refine WL.val ?_ ?_ (Runs.pickT rfl rfl) ?_; rfl; rfl) | (refine WL.val ?_ ?_ (Runs.pickF rfl rfl) ?_; rfl; rfl) | (refine WL.val ?_ ?_ (Runs.len rfl sl22) ?_; rfl; rfl) | (refine WL.val ?_ ?_ (Runs.len rfl sl23) ?_; rfl; rfl) | (refine WL.val ?_ ?_ (Runs.len rfl sl27) ?_; rfl; rfl) | (refine WL.val ?_ ?_ (Runs.len rfl sl28) ?_; rfl; rfl) | (refine WL.val ?_ ?_ (Runs.len rfl sl39) ?_; rfl; rfl) | (refine WL.val ?_ ?_ (Runs.len rfl sl64) ?_; rfl; rfl) | (refine WL.val ?_ ?_ (Runs.len rfl sl68) ?_; rfl; rfl) | (refine WL.val ?_ ?_ (Runs.len rfl sl86) ?_; rfl; rfl) | (refine WL.val ?_ ?_ (Runs.len rfl sl113) ?_; rfl; rfl) | (refine WL.pass ?_ ?_ ?_; rfl; rfl))
  refine WL.nil ?_
  repeat (first | refine AtExit.thenRet ?_ | refine AtExit.thenExit ?_ | refine AtExit.blockRet ?_ | refine AtExit.blockEnd ?_ | refine AtExit.blockExit ?_ | (refine AtExit.blockPast ?_ ?_; rfl))
  refine AtExit.go ?_
  refine WC.cut (α := Value) (fun vr => [(1, pv bx), (2, .slice none 0 0), (6, vr)])
    (fun vr w' => OwnA keptC 7 70 w4.heap.size w' vr (L.map (kp inf M now)) ∧ (L = [] → vr = .slice none 0 0) ∧ Below w4.heap.size w4 w') ?_ ?_
  · refine WC.seq (WC.region ?_)
    repeat (first | (refine WL.val ?_ ?_ (Runs.move rfl) ?_; rfl; rfl) | (refine WL.val ?_ ?_ (Runs.assign rfl) ?_; rfl; rfl) | (refine WL.val ?_ ?_ (Runs.extract rfl rfl) ?_; rfl; rfl) | (refine WL.val ?_ ?_ (Runs.nilCheck rfl) ?_; rfl; rfl) | (refine WL.val ?_ ?_ (Runs.pickT rfl rfl) ?_; rfl; rfl) | (refine WL.val ?_ ?_ (Runs.pickF rfl rfl) ?_; rfl; rfl) | (refine WL.val ?_ ?_ (Runs.len rfl sl22) ?_; rfl; rfl) | (refine WL.val ?_ ?_ (Runs.len rfl sl23) ?_; rfl; rfl) | (refine WL.val ?_ ?_ (Runs.len rfl sl27) ?_; rfl; rfl) | (refine WL.val ?_ ?_ (Runs.len rfl sl28) ?_; rfl; rfl) | (refine WL.val ?_ ?_ (Runs.len rfl sl39) ?_; rfl; rfl) | (refine WL.val ?_ ?_ (Runs.len rfl sl64) ?_; rfl; rfl) | (refine WL.val ?_ ?_ (Runs.len rfl sl68) ?_; rfl; rfl) | (refine WL.val ?_ ?_ (Runs.len rfl sl86) ?_; rfl; rfl) | (refine WL.val ?_ ?_ (Runs.len rfl sl113) ?_; rfl; rfl) | (refine WL.pass ?_ ?_ ?_; rfl; rfl))
    refine WL.nil ?_
    repeat (first | refine AtExit.thenRet ?_ | refine AtExit.thenExit ?_ | refine AtExit.blockRet ?_ | refine AtExit.blockEnd ?_ | refine AtExit.blockExit ?_ | (refine AtExit.blockPast ?_ ?_; rfl))
    refine AtExit.go ?_
    refine WC.block ?_
    refine WC.loop (α := Nat × Value) (fun | (i, vr) => [(1, pv bx), (2, .slice none 0 0), (6, vr), (34, .slice p l.length c), (35, .int .i64 (l.length : Int)), (36, .int .i64 (i : Int))])
      (fun | (i, vr) => fun w' => OwnA keptC 7 70 w4.heap.size w' vr ((L.take i).map (kp inf M now)) ∧ (L.take i = [] → vr = .slice none 0 0) ∧ Below w4.heap.size w4 w') (fun | (i, _) => l.length - i) (0, .slice none 0 0) (by repeat (first | exact Sub.nil _ | refine Sub.cons rfl ?_))
      ⟨by simpa using OwnA.nil keptC_len, fun _ => rfl, Below.refl _ _⟩ ?_
    rintro ⟨i, vr⟩ w5 ⟨o5, nl5, b5⟩
    refine WC.seq (WC.region ?_)
    by_cases hi : i < l.length
    · refine WL.val rfl rfl (Runs.lss rfl rfl (declt hi)) ?_
      refine WL.nil ?_
      repeat (first | refine AtExit.thenRet ?_ | refine AtExit.thenExit ?_ | refine AtExit.blockRet ?_ | refine AtExit.blockEnd ?_ | refine AtExit.blockExit ?_ | (refine AtExit.blockPast ?_ ?_; rfl))
      refine AtExit.go ?_
      refine WC.seq (WC.condT rfl ?_)
      refine WC.skip ?_
      repeat (first | refine AtExit.thenRet ?_ | refine AtExit.thenExit ?_ | refine AtExit.blockRet ?_ | refine AtExit.blockEnd ?_ | refine AtExit.blockExit ?_ | (refine AtExit.blockPast ?_ ?_; rfl))
      refine AtExit.go ?_
      obtain ⟨g, rfl, rw4⟩ := row4 (by omega)
      have rw5 := rw4.below b5
      have cx5 := cx4.below b5
      obtain ⟨x, hx⟩ : ∃ x, L[i]? = some x := ⟨_, List.getElem?_eq_getElem (by omega)⟩
      obtain ⟨hx9, t, hxt⟩ := hLD x (List.mem_of_getElem? hx)
      refine WC.seq (WC.block ?_)
      refine WC.seq (WC.region ?_)
      refine WL.val rfl rfl (Runs.idx rfl rfl Yba.underlying86 sz48 rfl hi) ?_
      refine WL.val rfl rfl (Runs.loadAgg (cs := kc x) rfl na48 sz48 (fun j v hv => rw5.cell kc_len hx hv)) ?_
      refine WL.val rfl rfl (Runs.alloc in48) ?_
      refine WL.skip rfl (RunsS.storeRow rfl rfl (one48 x) sz48 (heap_new _ _) rfl) ?_
      refine WL.nil ?_
      repeat (first | refine AtExit.thenRet ?_ | refine AtExit.thenExit ?_ | refine AtExit.blockRet ?_ | refine AtExit.blockEnd ?_ | refine AtExit.blockExit ?_ | (refine AtExit.blockPast ?_ ?_; rfl))
      refine AtExit.go ?_
      obtain ⟨b6, x6, z6⟩ := newVar w5 (Value.agg #[.string ⟨#[]⟩, .string ⟨#[]⟩, .int .u8 0, .int .u32 0, .bool false, .bool false]).cells (kc x).toArray 48
      generalize (w5.alloc _).setRow _ _ = w6 at b6 x6 z6 ⊢
      obtain ⟨bb, hbb⟩ : ∃ b, b = w5.heap.size := ⟨_, rfl⟩
      rw [← hbb] at x6 ⊢
      have bd : Below w6.heap.size w6 w6.drew := below_drawn _ _ _
      have b7 : Below w4.heap.size w4 w6.drew := (b5.trans (b6.mono b5.size)).trans (bd.mono (Nat.le_trans b5.size b6.size))
      have x7 : w6.drew.heap[bb]? = some (.cells (kc x).toArray 48 (0, 0)) := x6
      have o7 := (o5.below b6).below bd
      refine WC.held (fun wq => Below w4.heap.size w4 wq ∧ wq.heap[bb]? = some (.cells (kc x).toArray 48 (0, 0))) mixed rfl ?_
      generalize w6.drew = w7 at b7 x7 o7 ⊢
      have hS7 : Below w4.heap.size w4 w7 ∧ w7.heap[bb]? = some (.cells (kc x).toArray 48 (0, 0)) := ⟨b7, x7⟩
      obtain ⟨cu, u4, u130, u0⟩ := cx4.ue
      have uq : ∀ wq, Below w4.heap.size w4 wq → wq.heap[U]? = some (.cells cu 58 (0, 0)) := fun wq hb => below_heap hb (lt_of_heap u4) u4
      refine HL.take 0 rfl (by kernel_rfl) (by kernel_rfl) (by kernel_rfl) (fun _ _ _ h => h) rfl rfl (fun wq hC => Runs.move rfl) (by assumption) ?_
      refine HL.take 1 rfl (by kernel_rfl) (by kernel_rfl) (by kernel_rfl) (fun _ _ _ h => h) rfl rfl (fun wq hC => Runs.loadAgg (cs := kc x) rfl na48 sz48 (fun j v hv => by rw [cell_of hC.2, Nat.zero_add]; exact (List.getElem?_toArray).trans hv)) (by assumption) ?_
      refine HL.take 2 rfl (by kernel_rfl) (by kernel_rfl) (by kernel_rfl) (fun _ _ _ h => h) rfl rfl (fun wq hC => Runs.load rfl na34 (v := pv U) (by rw [cell_of (cx4.below hC.1).box]; rfl)) (by assumption) ?_
      refine HL.take 3 rfl (by kernel_rfl) (by kernel_rfl) (by kernel_rfl) (fun _ _ _ h => h) rfl rfl (fun wq hC => Runs.nilCheck rfl) (by assumption) ?_
      refine HL.take 4 rfl (by kernel_rfl) (by kernel_rfl) (by kernel_rfl) (fun _ _ _ h => h) rfl rfl (fun wq hC => Runs.fld rfl fl58_0) (by assumption) ?_
      refine HL.take 5 rfl (by kernel_rfl) (by kernel_rfl) (by kernel_rfl) (fun _ _ _ h => h) rfl rfl (fun wq hC => Runs.load rfl na26 (v := pv C) (by rw [cell_of (uq wq hC.1)]; exact u0)) (by assumption) ?_
      refine HL.take 6 rfl (by kernel_rfl) (by kernel_rfl) (by kernel_rfl) (fun _ _ _ h => h) rfl rfl (fun wq hC => Runs.load rfl na34 (v := pv U) (by rw [cell_of (cx4.below hC.1).box]; rfl)) (by assumption) ?_
      refine HL.take 7 rfl (by kernel_rfl) (by kernel_rfl) (by kernel_rfl) (fun _ _ _ h => h) rfl rfl (fun wq hC => Runs.nilCheck rfl) (by assumption) ?_
      refine HL.take 8 rfl (by kernel_rfl) (by kernel_rfl) (by kernel_rfl) (fun _ _ _ h => h) rfl rfl (fun wq hC => Runs.fld rfl fl58_3) (by assumption) ?_
      refine HL.take 9 rfl (by kernel_rfl) (by kernel_rfl) (by kernel_rfl) (fun _ _ _ h => h) rfl rfl (fun wq hC => Runs.load rfl na56 (v := .map (some mb)) (by rw [cell_of (uq wq hC.1)]; exact u130)) (by assumption) ?_
      refine HL.take 10 rfl (by kernel_rfl) (by kernel_rfl) (by kernel_rfl) (fun _ _ _ h => h) rfl rfl (fun wq hC => Runs.loadAgg (cs := kc x) rfl na48 sz48 (fun j v hv => by rw [cell_of hC.2, Nat.zero_add]; exact (List.getElem?_toArray).trans hv)) (by assumption) ?_
      refine HL.take 11 rfl (by kernel_rfl) (by kernel_rfl) (by kernel_rfl) (fun _ _ _ h => h) rfl rfl (fun wq hC => Runs.lookup rfl rfl hx9 hM.K (cx4.below hC.1).map) (by assumption) ?_
      rw [hxt]
      obtain ⟨a, ta⟩ := (cx4.below b7).tim x t hxt
      have htt : t ∈ ts := pm3.mem_iff.1 (List.mem_append_right _ (List.mem_map.2 ⟨x, pL.mem_iff.1 (List.mem_of_getElem? hx), tmr_of hxt⟩))
      obtain ⟨d0, d1⟩ := hdue t htt
      refine HL.all1 (i := 12) (by kernel_rfl) ?_
      refine HO.call rfl rfl rfl (RunsC.call rfl en18) (left_any t _ _ _ _ ta vq (q4.below b7).clk d0 d1) ?_
      rintro e w8 ⟨rfl, b8⟩
      have b8' := b7.trans (b8.mono b7.size)
      have x8 := below_heap b8 (lt_of_heap x7) x7
      have o8 := o7.below b8
      refine ⟨_, rfl, ⟨b8', x8⟩, ?_⟩
      refine HL.all1 (i := 13) (by kernel_rfl) ?_
      refine HO.val rfl rfl rfl (Runs.build rfl (built70 x ((inf t).due - now))) ⟨b8', x8⟩ ?_
      have hlen8 : ((L.take i).map (kp inf M now)).length < 5000 := by rw [List.length_map, List.length_take]; omega
      obtain ⟨vr9, w9, r9, o9, g9, loc9, _⟩ := OwnA.add keptC_len keptC_one Yba.underlying64 in70 rfl (by omega) (by omega) o8 b8'.size hlen8 (x, (inf t).due - now)
      have ba := below_new w8 (.cells (keptC (x, (inf t).due - now)).toArray 70) (Nat.le_refl _)
      have g9b : Below w4.heap.size w4 w9 := b8'.trans (g9.below (fun k hk hm => by have := (o8.tag hm).1; omega) b8'.size)
      have x9 : w9.heap[bb]? = some (.cells (kc x).toArray 48 (0, 0)) := g9.obj x8 (fun k hk => by
        obtain ⟨_, c, hx⟩ := o8.tag hk
        exact ⟨_, hx, rfl⟩)
      refine HL.all1 (i := 14) (by kernel_rfl) ?_
      refine HO.val rfl rfl rfl (Runs.sliceK rfl Yba.underlying64 in70 (by omega) (by omega) (by kernel_rfl)) ⟨b8'.trans (ba.mono b8'.size), below_heap ba (lt_of_heap x8) x8⟩ ?_
      refine HL.all1 (i := 15) (by kernel_rfl) ?_
      refine HO.val rfl rfl rfl (Runs.append rfl r9) ⟨g9b, x9⟩ ?_
      refine HL.all1 (i := 16) (by kernel_rfl) ?_
      refine HO.val rfl rfl rfl (Runs.assign rfl) ⟨g9b, x9⟩ ?_
      refine HL.done (by kernel_rfl) ?_
      repeat (first | refine AtExit.thenRet ?_ | refine AtExit.thenExit ?_ | refine AtExit.blockRet ?_ | refine AtExit.blockEnd ?_ | refine AtExit.blockExit ?_ | (refine AtExit.blockPast ?_ ?_; rfl))
      refine AtExit.go ?_
      refine WC.region ?_
      refine WL.val rfl rfl (Runs.add rfl rfl (r := ((i + 1 : Nat) : Int)) (wI (by omega) (by omega) (by omega))) ?_
      repeat (first | (refine WL.val ?_ ?_ (Runs.move rfl) ?_; rfl; rfl) | (refine WL.val ?_ ?_ (Runs.assign rfl) ?_; rfl; rfl) | (refine WL.val ?_ ?_ (Runs.extract rfl rfl) ?_; rfl; rfl) | (refine WL.val ?_ ?_ (Runs.nilCheck rfl) ?_; rfl; rfl) | (refine WL.val ?_ ?_ (Runs.pickT rfl rfl) ?_; rfl; rfl) | (refine WL.val ?_ ?_ (Runs.pickF rfl rfl) ?_; rfl; rfl) | (refine WL.val ?_ ?_ (Runs.len rfl sl22) ?_; rfl; rfl) | (refine WL.val ?_ ?_ (Runs.len rfl sl23) ?_; rfl; rfl) | (refine WL.val ?_ ?_ (Runs.len rfl sl27) ?_; rfl; rfl) | (refine WL.val ?_ ?_ (Runs.len rfl sl28) ?_; rfl; rfl) | (refine WL.val ?_ ?_ (Runs.len rfl sl39) ?_; rfl; rfl) | (refine WL.val ?_ ?_ (Runs.len rfl sl64) ?_; rfl; rfl) | (refine WL.val ?_ ?_ (Runs.len rfl sl68) ?_; rfl; rfl) | (refine WL.val ?_ ?_ (Runs.len rfl sl86) ?_; rfl; rfl) | (refine WL.val ?_ ?_ (Runs.len rfl sl113) ?_; rfl; rfl) | (refine WL.pass ?_ ?_ ?_; rfl; rfl))
      refine WL.nil ?_
      repeat (first | refine AtExit.thenRet ?_ | refine AtExit.thenExit ?_ | refine AtExit.blockRet ?_ | refine AtExit.blockEnd ?_ | refine AtExit.blockExit ?_ | (refine AtExit.blockPast ?_ ?_; rfl))
      refine AtExit.inv fun av hv => ⟨(i + 1, vr9), hv.sub (by repeat (first | exact Sub.nil _ | refine Sub.cons rfl ?_)), ⟨?_, fun e => absurd e (by rw [takeN hx]; simp), g9b⟩, by show l.length - (i + 1) < l.length - i; omega⟩
      rw [takeN hx, List.map_append, List.map_singleton, kp, tmr_of hxt]
      exact o9
    · refine WL.val rfl rfl (Runs.lss rfl rfl (decge hi)) ?_
      refine WL.nil ?_
      repeat (first | refine AtExit.thenRet ?_ | refine AtExit.thenExit ?_ | refine AtExit.blockRet ?_ | refine AtExit.blockEnd ?_ | refine AtExit.blockExit ?_ | (refine AtExit.blockPast ?_ ?_; rfl))
      refine AtExit.go ?_
      refine WC.seq (WC.condF rfl ?_)
      refine WC.exit ?_
      repeat (first | refine AtExit.thenRet ?_ | refine AtExit.thenExit ?_ | refine AtExit.blockRet ?_ | refine AtExit.blockEnd ?_ | refine AtExit.blockExit ?_ | (refine AtExit.blockPast ?_ ?_; rfl))
      refine AtExit.inv fun av hv => ⟨vr, hv.sub (by repeat (first | exact Sub.nil _ | refine Sub.cons rfl ?_)), ?_, ?_, b5⟩
      · rw [List.take_of_length_le (by omega)] at o5
        exact o5
      · intro e
        exact nl5 (by rw [e]; simp)
  rintro vr w5 ⟨o5, nl5, b5⟩
  have cx5 := cx4.below b5
  have q5 := q4.below b5
  obtain ⟨cu, u5, u130, _⟩ := cx5.ue
  refine WC.seq (WC.region ?_)
  refine WL.val rfl rfl (Runs.load rfl na34 (v := pv U) (by rw [cell_of cx5.box]; rfl)) ?_
  repeat (first | (refine WL.val ?_ ?_ (Runs.move rfl) ?_; rfl; rfl) | (refine WL.val ?_ ?_ (Runs.assign rfl) ?_; rfl; rfl) | (refine WL.val ?_ ?_ (Runs.extract rfl rfl) ?_; rfl; rfl) | (refine WL.val ?_ ?_ (Runs.nilCheck rfl) ?_; rfl; rfl) | (refine WL.val ?_ ?_ (Runs.pickT rfl rfl) ?_; rfl; rfl) | (refine WL.val ?_ ?_ (Runs.pickF rfl rfl) ?_; rfl; rfl) | (refine WL.val ?_ ?_ (Runs.len rfl sl22) ?_; rfl; rfl) | (refine WL.val ?_ ?_ (Runs.len rfl sl23) ?_; rfl; rfl) | (refine WL.val ?_ ?_ (Runs.len rfl sl27) ?_; rfl; rfl) | (refine WL.val ?_ ?_ (Runs.len rfl sl28) ?_; rfl; rfl) | (refine WL.val ?_ ?_ (Runs.len rfl sl39) ?_; rfl; rfl) | (refine WL.val ?_ ?_ (Runs.len rfl sl64) ?_; rfl; rfl) | (refine WL.val ?_ ?_ (Runs.len rfl sl68) ?_; rfl; rfl) | (refine WL.val ?_ ?_ (Runs.len rfl sl86) ?_; rfl; rfl) | (refine WL.val ?_ ?_ (Runs.len rfl sl113) ?_; rfl; rfl) | (refine WL.pass ?_ ?_ ?_; rfl; rfl))
  refine WL.val rfl rfl (Runs.fld rfl fl58_3) ?_
  refine WL.val rfl rfl (Runs.load rfl na56 (v := .map (some mb)) (by rw [cell_of u5]; exact u130)) ?_
  refine WL.val0 rfl (Runs.clear rfl cx5.map) ?_
  refine WL.nil ?_
  repeat (first | refine AtExit.thenRet ?_ | refine AtExit.thenExit ?_ | refine AtExit.blockRet ?_ | refine AtExit.blockEnd ?_ | refine AtExit.blockExit ?_ | (refine AtExit.blockPast ?_ ?_; rfl))
  refine AtExit.go ?_
  have g6 : Chg w5 (setO w5 mb (.map #[] M.length)) (fun k => k = mb) := setO_chg _ _ _ rfl
  refine WC.seq (WC.region ?_)
  repeat (first | (refine WL.val ?_ ?_ (Runs.move rfl) ?_; rfl; rfl) | (refine WL.val ?_ ?_ (Runs.assign rfl) ?_; rfl; rfl) | (refine WL.val ?_ ?_ (Runs.extract rfl rfl) ?_; rfl; rfl) | (refine WL.val ?_ ?_ (Runs.nilCheck rfl) ?_; rfl; rfl) | (refine WL.val ?_ ?_ (Runs.pickT rfl rfl) ?_; rfl; rfl) | (refine WL.val ?_ ?_ (Runs.pickF rfl rfl) ?_; rfl; rfl) | (refine WL.val ?_ ?_ (Runs.len rfl sl22) ?_; rfl; rfl) | (refine WL.val ?_ ?_ (Runs.len rfl sl23) ?_; rfl; rfl) | (refine WL.val ?_ ?_ (Runs.len rfl sl27) ?_; rfl; rfl) | (refine WL.val ?_ ?_ (Runs.len rfl sl28) ?_; rfl; rfl) | (refine WL.val ?_ ?_ (Runs.len rfl sl39) ?_; rfl; rfl) | (refine WL.val ?_ ?_ (Runs.len rfl sl64) ?_; rfl; rfl) | (refine WL.val ?_ ?_ (Runs.len rfl sl68) ?_; rfl; rfl) | (refine WL.val ?_ ?_ (Runs.len rfl sl86) ?_; rfl; rfl) | (refine WL.val ?_ ?_ (Runs.len rfl sl113) ?_; rfl; rfl) | (refine WL.pass ?_ ?_ ?_; rfl; rfl))
  refine WL.nil ?_
  repeat (first | refine AtExit.thenRet ?_ | refine AtExit.thenExit ?_ | refine AtExit.blockRet ?_ | refine AtExit.blockEnd ?_ | refine AtExit.blockExit ?_ | (refine AtExit.blockPast ?_ ?_; rfl))
  refine AtExit.go ?_
  refine WC.ret ?_
  repeat (first | refine AtExit.thenRet ?_ | refine AtExit.thenExit ?_ | refine AtExit.blockRet ?_ | refine AtExit.blockEnd ?_ | refine AtExit.blockExit ?_ | (refine AtExit.blockPast ?_ ?_; rfl))
  refine post1 rfl rfl ⟨_, rfl, L, ts', vq, pL.trans hp3, sL, (o5.mono (by omega)).chg g6 (fun k hk => by subst hk; exact ⟨_, cx5.map, rfl⟩), nl5, q5.chg g6 (fun k hk => by subst hk; exact ⟨_, cx5.map, rfl, Or.inl rfl⟩), ?_, ?_, setO_heap cx5.map, ob3⟩
  · refine List.Perm.trans (List.Perm.append_left _ ?_) pm3
    rw [← hM.tmrs]
    exact (hp3.map _).symm
  · have g7 : Chg w (setO w5 mb (.map #[] M.length)) (fun k => ((k = C ∨ v.ownBlock = some k ∨ k ∈ ts) ∨ w.heap.size ≤ k) ∨ k = mb) := Chg.trans (b := w5) (Chg.trans (b := w4) (g4'.mono fun k _ hk => Or.inl hk) (Chg.of_below b5)) (g6.mono fun k _ hk => Or.inr hk)
    refine g7.mono fun k hk hm => ?_
    rcases hm with ((h1 | h1 | h1) | h1) | h1
    · exact Or.inl h1
    · exact Or.inr (Or.inl h1)
    · exact Or.inr (Or.inr (Or.inl h1))
    · omega
    · exact Or.inr (Or.inr (Or.inr h1))
end
end Go.Proofs.Ybulkgfdm
