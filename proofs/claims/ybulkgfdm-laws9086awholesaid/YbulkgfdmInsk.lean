/- insertionSortCmpFunc, pdqsortCmpFunc at twelve or fewer, SortFunc. -/
import Derived.Test.YbulkgfdmSortk
namespace Go.Proofs.Ybulkgfdm
open Go Go.Fr Go.RowKit

theorem ins_endR {R : Nat → Nat → Prop} {C1 C2 : List Nat} {x : Nat} (h : (C1 ++ C2).Pairwise R) (h1 : ∀ y ∈ C1, R y x) (h2 : ∀ y ∈ C2, R x y) : (C1 ++ x :: C2).Pairwise R := by
  rw [List.pairwise_append] at h ⊢
  obtain ⟨a, b, c⟩ := h
  refine ⟨a, List.pairwise_cons.2 ⟨h2, b⟩, fun u hu v hv => ?_⟩
  rcases List.mem_cons.1 hv with rfl | hv
  · exact h1 u hu
  · exact c u hu v hv
theorem kl_trans {inf : Nat → TI} {M : MapL} {x y z : Nat} (h : kl inf M x y) (k : kl inf M y z) : kl inf M x z := by unfold kl at *; omega
theorem kl_asymm {inf : Nat → TI} {M : MapL} {x y : Nat} (h : kl inf M x y) (k : kl inf M y x) : False := by unfold kl at *; omega
theorem get_atN (P : List Nat) (x : Nat) (S : List Nat) (i : Nat) (hi : i = P.length) : (P ++ x :: S)[i]? = some x := by subst hi; simp
theorem set_twoN (P S : List Nat) (z x : Nat) (i : Nat) (hi : i = P.length) : ((P ++ z :: x :: S).set (i + 1) z).set i x = P ++ x :: z :: S := by
  subst hi
  rw [List.set_append_right _ _ (by omega), show P.length + 1 - P.length = 1 from by omega, List.set_append_right _ _ (Nat.le_refl _), Nat.sub_self]
  rfl
theorem takeN {V : List Nat} {i y : Nat} (h : V[i]? = some y) : V.take (i + 1) = V.take i ++ [y] := by rw [List.take_add_one, h]; rfl
theorem dropN {V : List Nat} {i y : Nat} (h : V[i]? = some y) : V.drop i = y :: V.drop (i + 1) := by
  have hi : i < V.length := (List.getElem?_eq_some_iff.1 h).1
  rw [List.drop_eq_getElem_cons hi, (List.getElem?_eq_some_iff.1 h).2]

def fnv (bx : Nat) : Value := .func (.func 16) #[] #[.pointer (some ⟨bx, 0, none⟩)]

section
variable {inf : Nat → TI} {bx U C mb : Nat} {M : MapL}
structure SS (inf : Nat → TI) (bx U C mb : Nat) (M : MapL) (g : Nat) (w0 w : World) (l : List Nat) : Prop where
  row : RwA kc 48 w g l
  cx : Cx inf bx U C mb M w
  chg : Chg w0 w (fun k => k = g)
theorem SS.below {g : Nat} {w0 w w' : World} {l : List Nat} (h : SS inf bx U C mb M g w0 w l) (hb : Below w.heap.size w w') : SS inf bx U C mb M g w0 w' l := ⟨h.row.below hb, h.cx.below hb, h.chg.trans (Chg.of_below hb)⟩
theorem SS.put {g : Nat} {w0 w : World} {l : List Nat} (h : SS inf bx U C mb M g w0 w l) {i : Nat} (hi : i < l.length) (x : Nat) : SS inf bx U C mb M g w0 (w.setCells g (0 + i * 6) (kc x)) (l.set i x) := by
  have hc : Chg w (w.setCells g (0 + i * 6) (kc x)) (fun k => k = g) := chg_setCells (m := fun k => k = g) g rfl _ _ _
  refine ⟨h.row.put kc_len hi x, h.cx.chg hc (fun k hk => ?_), h.chg.trans hc⟩
  subst hk
  obtain ⟨s, hs⟩ := h.row
  exact ⟨_, hs⟩

/-- The keys to be sorted: each at a running timer, no two started together. -/
structure Keyd (inf : Nat → TI) (M : MapL) (l : List Nat) : Prop where
  ok : ∀ x ∈ l, x < 9 ∧ ∃ t, lookM x M = some (some t)
  nd : l.Nodup
  st : ∀ x ∈ l, ∀ y ∈ l, x ≠ y → (inf (tmr M x)).start ≠ (inf (tmr M y)).start
theorem Keyd.tot {l : List Nat} (h : Keyd inf M l) {x y : Nat} (hx : x ∈ l) (hy : y ∈ l) (hne : x ≠ y) (hn : ¬ kl inf M x y) : kl inf M y x := by
  have := h.st x hx y hy hne
  unfold kl at *; omega

theorem one48 (x : Nat) : (kc x).toArray.all (·.oneCell') = true := by
  rw [List.all_toArray, List.all_eq_true]
  exact kc_one x

set_option maxRecDepth 8000 in
theorem insk_any (g n cap : Nat) (l0 : List Nat) (w : World) (hn : n ≤ 12) (hl0 : l0.length = n) (hR : RwA kc 48 w g l0) (hX : Cx inf bx U C mb M w) (hD : Keyd inf M l0) :
    Calls Yba.prog 26 #[.slice (some ⟨g, 0, none⟩) n cap, .int .i64 0, .int .i64 (n : Int), fnv bx] w fun e w' => e = .returned (.tuple #[]) ∧ ∃ L, SS inf bx U C mb M g w w' L ∧ L.Perm l0 ∧ L.Pairwise (kl inf M) := by
  refine calls_of Yba.func26 rfl Yba.ntmps26 rfl ?_
  refine WC.seq (WC.region ?_)
  repeat (first | (refine WL.val ?_ ?_ (Runs.move rfl) ?_; rfl; rfl) | (refine WL.val ?_ ?_ (Runs.assign rfl) ?_; rfl; rfl) | (refine WL.val ?_ ?_ (Runs.extract rfl rfl) ?_; rfl; rfl) | (refine WL.val ?_ ?_ (Runs.nilCheck rfl) ?_; rfl; rfl) | (refine WL.val ?_ ?_ (Runs.pickT rfl rfl) ?_; rfl; rfl) | (refine WL.val ?_ ?_ (Runs.pickF rfl rfl) ?_; rfl; rfl) | (refine WL.val ?_ ?_ (Runs.len rfl sl22) ?_; rfl; rfl) | (refine WL.val ?_ ?_ (Runs.len rfl sl23) ?_; rfl; rfl) | (refine WL.val ?_ ?_ (Runs.len rfl sl27) ?_; rfl; rfl) | (refine WL.val ?_ ?_ (Runs.len rfl sl28) ?_; rfl; rfl) | (refine WL.val ?_ ?_ (Runs.len rfl sl39) ?_; rfl; rfl) | (refine WL.val ?_ ?_ (Runs.len rfl sl64) ?_; rfl; rfl) | (refine WL.val ?_ ?_ (Runs.len rfl sl68) ?_; rfl; rfl) | (refine WL.val ?_ ?_ (Runs.len rfl sl86) ?_; rfl; rfl) | (refine WL.val ?_ ?_ (Runs.len rfl sl113) ?_; rfl; rfl) | (refine WL.pass ?_ ?_ ?_; rfl; rfl))
  refine WL.val rfl rfl (Runs.add rfl rfl (r := ((1 : Nat) : Int)) (wI (by omega) (by omega) (by omega))) ?_
  repeat (first | (refine WL.val ?_ ?_ (Runs.move rfl) ?_; rfl; rfl) | (refine WL.val ?_ ?_ (Runs.assign rfl) ?_; rfl; rfl) | (refine WL.val ?_ ?_ (Runs.extract rfl rfl) ?_; rfl; rfl) | (refine WL.val ?_ ?_ (Runs.nilCheck rfl) ?_; rfl; rfl) | (refine WL.val ?_ ?_ (Runs.pickT rfl rfl) ?_; rfl; rfl) | (refine WL.val ?_ ?_ (Runs.pickF rfl rfl) ?_; rfl; rfl) | (refine WL.val ?_ ?_ (Runs.len rfl sl22) ?_; rfl; rfl) | (refine WL.val ?_ ?_ (Runs.len rfl sl23) ?_; rfl; rfl) | (refine WL.val ?_ ?_ (Runs.len rfl sl27) ?_; rfl; rfl) | (refine WL.val ?_ ?_ (Runs.len rfl sl28) ?_; rfl; rfl) | (refine WL.val ?_ ?_ (Runs.len rfl sl39) ?_; rfl; rfl) | (refine WL.val ?_ ?_ (Runs.len rfl sl64) ?_; rfl; rfl) | (refine WL.val ?_ ?_ (Runs.len rfl sl68) ?_; rfl; rfl) | (refine WL.val ?_ ?_ (Runs.len rfl sl86) ?_; rfl; rfl) | (refine WL.val ?_ ?_ (Runs.len rfl sl113) ?_; rfl; rfl) | (refine WL.pass ?_ ?_ ?_; rfl; rfl))
  refine WL.nil ?_
  repeat (first | refine AtExit.thenRet ?_ | refine AtExit.thenExit ?_ | refine AtExit.blockRet ?_ | refine AtExit.blockEnd ?_ | refine AtExit.blockExit ?_ | (refine AtExit.blockPast ?_ ?_; rfl))
  refine AtExit.go ?_
  refine WC.block ?_
  refine WC.loop (α := Nat × List Nat) (fun | (c, _) => [(0, .slice (some ⟨g, 0, none⟩) n cap), (1, .int .i64 0), (2, .int .i64 (n : Int)), (3, fnv bx), (8, .int .i64 (c : Int))])
    (fun | (c, L) => fun w' => 1 ≤ c ∧ L.Perm (l0.take c) ∧ L.Pairwise (kl inf M) ∧ SS inf bx U C mb M g w w' (L ++ l0.drop c)) (fun | (c, _) => n - c) (1, l0.take 1) (by repeat (first | exact Sub.nil _ | refine Sub.cons rfl ?_))
    ⟨Nat.le_refl _, List.Perm.refl _, by match l0 with | [] => simp | x :: l => simp, by rw [List.take_append_drop]; exact ⟨hR, hX, Chg.refl _⟩⟩ ?_
  rintro ⟨c, L⟩ w' ⟨hc1, hp, hsrt, hs⟩
  refine WC.seq ?_
  refine WC.seq (WC.region ?_)
  repeat (first | (refine WL.val ?_ ?_ (Runs.move rfl) ?_; rfl; rfl) | (refine WL.val ?_ ?_ (Runs.assign rfl) ?_; rfl; rfl) | (refine WL.val ?_ ?_ (Runs.extract rfl rfl) ?_; rfl; rfl) | (refine WL.val ?_ ?_ (Runs.nilCheck rfl) ?_; rfl; rfl) | (refine WL.val ?_ ?_ (Runs.pickT rfl rfl) ?_; rfl; rfl) | (refine WL.val ?_ ?_ (Runs.pickF rfl rfl) ?_; rfl; rfl) | (refine WL.val ?_ ?_ (Runs.len rfl sl22) ?_; rfl; rfl) | (refine WL.val ?_ ?_ (Runs.len rfl sl23) ?_; rfl; rfl) | (refine WL.val ?_ ?_ (Runs.len rfl sl27) ?_; rfl; rfl) | (refine WL.val ?_ ?_ (Runs.len rfl sl28) ?_; rfl; rfl) | (refine WL.val ?_ ?_ (Runs.len rfl sl39) ?_; rfl; rfl) | (refine WL.val ?_ ?_ (Runs.len rfl sl64) ?_; rfl; rfl) | (refine WL.val ?_ ?_ (Runs.len rfl sl68) ?_; rfl; rfl) | (refine WL.val ?_ ?_ (Runs.len rfl sl86) ?_; rfl; rfl) | (refine WL.val ?_ ?_ (Runs.len rfl sl113) ?_; rfl; rfl) | (refine WL.pass ?_ ?_ ?_; rfl; rfl))
  by_cases hcl : c < n
  · refine WL.val rfl rfl (Runs.lss rfl rfl (declt hcl)) ?_
    refine WL.nil ?_
    repeat (first | refine AtExit.thenRet ?_ | refine AtExit.thenExit ?_ | refine AtExit.blockRet ?_ | refine AtExit.blockEnd ?_ | refine AtExit.blockExit ?_ | (refine AtExit.blockPast ?_ ?_; rfl))
    refine AtExit.go ?_
    refine WC.condT rfl ?_
    refine WC.skip ?_
    repeat (first | refine AtExit.thenRet ?_ | refine AtExit.thenExit ?_ | refine AtExit.blockRet ?_ | refine AtExit.blockEnd ?_ | refine AtExit.blockExit ?_ | (refine AtExit.blockPast ?_ ?_; rfl))
    refine AtExit.go ?_
    obtain ⟨x, hx⟩ : ∃ x, l0[c]? = some x := ⟨_, List.getElem?_eq_getElem (by omega)⟩
    have hxm : x ∈ l0 := List.mem_of_getElem? hx
    have hLl : L.length = c := by rw [hp.length_eq, List.length_take]; omega
    have hLm : ∀ y ∈ L, y ∈ l0 := fun y hy => List.mem_of_mem_take (hp.mem_iff.1 hy)
    have hLx : x ∉ L := fun hm => by
      have h1 := hD.nd
      rw [← List.take_append_drop c l0, dropN hx, List.nodup_append] at h1
      exact h1.2.2 x (hp.mem_iff.1 hm) x (by simp) rfl
    rw [dropN hx] at hs
    refine WC.cut (α := List Nat) (fun _ => [(0, .slice (some ⟨g, 0, none⟩) n cap), (1, .int .i64 0), (2, .int .i64 (n : Int)), (3, fnv bx), (8, .int .i64 (c : Int))])
      (fun L' w' => L'.Perm (l0.take (c + 1)) ∧ L'.Pairwise (kl inf M) ∧ SS inf bx U C mb M g w w' (L' ++ l0.drop (c + 1))) ?_ ?_
    · refine WC.block ?_
      refine WC.seq (WC.region ?_)
      repeat (first | (refine WL.val ?_ ?_ (Runs.move rfl) ?_; rfl; rfl) | (refine WL.val ?_ ?_ (Runs.assign rfl) ?_; rfl; rfl) | (refine WL.val ?_ ?_ (Runs.extract rfl rfl) ?_; rfl; rfl) | (refine WL.val ?_ ?_ (Runs.nilCheck rfl) ?_; rfl; rfl) | (refine WL.val ?_ ?_ (Runs.pickT rfl rfl) ?_; rfl; rfl) | (refine WL.val ?_ ?_ (Runs.pickF rfl rfl) ?_; rfl; rfl) | (refine WL.val ?_ ?_ (Runs.len rfl sl22) ?_; rfl; rfl) | (refine WL.val ?_ ?_ (Runs.len rfl sl23) ?_; rfl; rfl) | (refine WL.val ?_ ?_ (Runs.len rfl sl27) ?_; rfl; rfl) | (refine WL.val ?_ ?_ (Runs.len rfl sl28) ?_; rfl; rfl) | (refine WL.val ?_ ?_ (Runs.len rfl sl39) ?_; rfl; rfl) | (refine WL.val ?_ ?_ (Runs.len rfl sl64) ?_; rfl; rfl) | (refine WL.val ?_ ?_ (Runs.len rfl sl68) ?_; rfl; rfl) | (refine WL.val ?_ ?_ (Runs.len rfl sl86) ?_; rfl; rfl) | (refine WL.val ?_ ?_ (Runs.len rfl sl113) ?_; rfl; rfl) | (refine WL.pass ?_ ?_ ?_; rfl; rfl))
      refine WL.nil ?_
      repeat (first | refine AtExit.thenRet ?_ | refine AtExit.thenExit ?_ | refine AtExit.blockRet ?_ | refine AtExit.blockEnd ?_ | refine AtExit.blockExit ?_ | (refine AtExit.blockPast ?_ ?_; rfl))
      refine AtExit.go ?_
      refine WC.block ?_
      refine WC.loop (α := List Nat × List Nat) (fun | (C1, _) => [(0, .slice (some ⟨g, 0, none⟩) n cap), (1, .int .i64 0), (2, .int .i64 (n : Int)), (3, fnv bx), (8, .int .i64 (c : Int)), (9, .int .i64 (C1.length : Int))])
        (fun | (C1, C2) => fun w' => C1 ++ C2 = L ∧ (∀ y ∈ C2, kl inf M x y) ∧ SS inf bx U C mb M g w w' (C1 ++ x :: C2 ++ l0.drop (c + 1))) (fun | (C1, _) => C1.length) (L, [])
        (by
          show Fr.Sub [(0, .slice (some ⟨g, 0, none⟩) n cap), (1, .int .i64 0), (2, .int .i64 (n : Int)), (3, fnv bx), (8, .int .i64 (c : Int)), (9, .int .i64 (L.length : Int))] _
          rw [hLl]
          exact (by repeat (first | exact Sub.nil _ | refine Sub.cons rfl ?_))) ⟨by simp, by simp, by simpa using hs⟩ ?_
      clear hs
      rintro ⟨C1, C2⟩ w2 ⟨hCC, hlt, hs⟩
      have hCCl : C1.length + C2.length = c := by rw [← hLl, ← hCC, List.length_append]
      have hLen : (C1 ++ x :: C2 ++ l0.drop (c + 1)).length = n := by rw [List.length_append, List.length_append, List.length_cons, List.length_drop]; omega
      have fin : (∀ y ∈ C1, kl inf M y x) → (C1 ++ x :: C2).Perm (l0.take (c + 1)) ∧ (C1 ++ x :: C2).Pairwise (kl inf M) := fun h1 => by
        refine ⟨?_, ins_endR (by rw [hCC]; exact hsrt) h1 hlt⟩
        rw [takeN hx]
        refine List.perm_middle.trans ?_
        rw [hCC]
        exact (List.Perm.cons x hp).trans (List.perm_append_singleton x _).symm
      have hb0 : Below w2.heap.size w2 w2.drew := below_drawn _ _ _
      have hs0 := hs.below hb0
      refine WC.seq ?_
      refine WC.seq (WC.still 14 mixed (by kernel_rfl) ?_)
      repeat (first | (refine SL.val ?_ ?_ (Runs.move rfl) ?_; rfl; rfl) | (refine SL.val ?_ ?_ (Runs.assign rfl) ?_; rfl; rfl) | (refine SL.val ?_ ?_ (Runs.extract rfl rfl) ?_; rfl; rfl) | (refine SL.val ?_ ?_ (Runs.nilCheck rfl) ?_; rfl; rfl) | (refine SL.val ?_ ?_ (Runs.pickT rfl rfl) ?_; rfl; rfl) | (refine SL.val ?_ ?_ (Runs.pickF rfl rfl) ?_; rfl; rfl) | (refine SL.val ?_ ?_ (Runs.len rfl sl22) ?_; rfl; rfl) | (refine SL.val ?_ ?_ (Runs.len rfl sl23) ?_; rfl; rfl) | (refine SL.val ?_ ?_ (Runs.len rfl sl27) ?_; rfl; rfl) | (refine SL.val ?_ ?_ (Runs.len rfl sl28) ?_; rfl; rfl) | (refine SL.val ?_ ?_ (Runs.len rfl sl39) ?_; rfl; rfl) | (refine SL.val ?_ ?_ (Runs.len rfl sl64) ?_; rfl; rfl) | (refine SL.val ?_ ?_ (Runs.len rfl sl68) ?_; rfl; rfl) | (refine SL.val ?_ ?_ (Runs.len rfl sl86) ?_; rfl; rfl) | (refine SL.val ?_ ?_ (Runs.len rfl sl113) ?_; rfl; rfl) | (refine SL.pass ?_ ?_ ?_; rfl; rfl))
      rcases List.eq_nil_or_concat C1 with hnil | ⟨C3, z, hcon⟩
      · subst hnil
        refine SL.val rfl rfl (Runs.gtr rfl rfl (r := false) (dfalse (by simp))) ?_
        repeat (first | (refine SL.val ?_ ?_ (Runs.move rfl) ?_; rfl; rfl) | (refine SL.val ?_ ?_ (Runs.assign rfl) ?_; rfl; rfl) | (refine SL.val ?_ ?_ (Runs.extract rfl rfl) ?_; rfl; rfl) | (refine SL.val ?_ ?_ (Runs.nilCheck rfl) ?_; rfl; rfl) | (refine SL.val ?_ ?_ (Runs.pickT rfl rfl) ?_; rfl; rfl) | (refine SL.val ?_ ?_ (Runs.pickF rfl rfl) ?_; rfl; rfl) | (refine SL.val ?_ ?_ (Runs.len rfl sl22) ?_; rfl; rfl) | (refine SL.val ?_ ?_ (Runs.len rfl sl23) ?_; rfl; rfl) | (refine SL.val ?_ ?_ (Runs.len rfl sl27) ?_; rfl; rfl) | (refine SL.val ?_ ?_ (Runs.len rfl sl28) ?_; rfl; rfl) | (refine SL.val ?_ ?_ (Runs.len rfl sl39) ?_; rfl; rfl) | (refine SL.val ?_ ?_ (Runs.len rfl sl64) ?_; rfl; rfl) | (refine SL.val ?_ ?_ (Runs.len rfl sl68) ?_; rfl; rfl) | (refine SL.val ?_ ?_ (Runs.len rfl sl86) ?_; rfl; rfl) | (refine SL.val ?_ ?_ (Runs.len rfl sl113) ?_; rfl; rfl) | (refine SL.pass ?_ ?_ ?_; rfl; rfl))
        refine SL.nil ?_
        repeat (first | (refine WL.val ?_ ?_ (Runs.move rfl) ?_; rfl; rfl) | (refine WL.val ?_ ?_ (Runs.assign rfl) ?_; rfl; rfl) | (refine WL.val ?_ ?_ (Runs.extract rfl rfl) ?_; rfl; rfl) | (refine WL.val ?_ ?_ (Runs.nilCheck rfl) ?_; rfl; rfl) | (refine WL.val ?_ ?_ (Runs.pickT rfl rfl) ?_; rfl; rfl) | (refine WL.val ?_ ?_ (Runs.pickF rfl rfl) ?_; rfl; rfl) | (refine WL.val ?_ ?_ (Runs.len rfl sl22) ?_; rfl; rfl) | (refine WL.val ?_ ?_ (Runs.len rfl sl23) ?_; rfl; rfl) | (refine WL.val ?_ ?_ (Runs.len rfl sl27) ?_; rfl; rfl) | (refine WL.val ?_ ?_ (Runs.len rfl sl28) ?_; rfl; rfl) | (refine WL.val ?_ ?_ (Runs.len rfl sl39) ?_; rfl; rfl) | (refine WL.val ?_ ?_ (Runs.len rfl sl64) ?_; rfl; rfl) | (refine WL.val ?_ ?_ (Runs.len rfl sl68) ?_; rfl; rfl) | (refine WL.val ?_ ?_ (Runs.len rfl sl86) ?_; rfl; rfl) | (refine WL.val ?_ ?_ (Runs.len rfl sl113) ?_; rfl; rfl) | (refine WL.pass ?_ ?_ ?_; rfl; rfl))
        refine WL.nil ?_
        repeat (first | refine AtExit.thenRet ?_ | refine AtExit.thenExit ?_ | refine AtExit.blockRet ?_ | refine AtExit.blockEnd ?_ | refine AtExit.blockExit ?_ | (refine AtExit.blockPast ?_ ?_; rfl))
        refine AtExit.go ?_
        refine WC.condF rfl ?_
        obtain ⟨f1, f2⟩ := fin (by simp)
        refine WC.exit ?_
        repeat (first | refine AtExit.thenRet ?_ | refine AtExit.thenExit ?_ | refine AtExit.blockRet ?_ | refine AtExit.blockEnd ?_ | refine AtExit.blockExit ?_ | (refine AtExit.blockPast ?_ ?_; rfl))
        refine AtExit.inv fun av hv => ⟨_, hv.sub (by repeat (first | exact Sub.nil _ | refine Sub.cons rfl ?_)), f1, f2, hs0⟩
      · rw [List.concat_eq_append] at hcon
        subst hcon
        have hz1 : (C3 ++ [z]).length = C3.length + 1 := by simp
        have hzL : z ∈ L := by rw [← hCC]; simp
        have hzm := hLm z hzL
        obtain ⟨hx9, tx, htx⟩ := hD.ok x hxm
        obtain ⟨hz9, tz, htz⟩ := hD.ok z hzm
        have hxz : x ≠ z := fun e => hLx (e ▸ hzL)
        have eL : C3 ++ [z] ++ x :: C2 ++ l0.drop (c + 1) = C3 ++ z :: x :: (C2 ++ l0.drop (c + 1)) := by simp
        have gx : (C3 ++ [z] ++ x :: C2 ++ l0.drop (c + 1))[C3.length + 1]? = some x := by
          rw [eL, show C3 ++ z :: x :: (C2 ++ l0.drop (c + 1)) = (C3 ++ [z]) ++ x :: (C2 ++ l0.drop (c + 1)) from by simp]
          exact get_atN _ _ _ _ (by simp)
        have gz : (C3 ++ [z] ++ x :: C2 ++ l0.drop (c + 1))[C3.length]? = some z := by rw [eL]; exact get_atN _ _ _ _ rfl
        refine SL.val rfl rfl (Runs.gtr rfl rfl (r := true) (dtrue (by rw [hz1]; omega))) ?_
        repeat (first | (refine SL.val ?_ ?_ (Runs.move rfl) ?_; rfl; rfl) | (refine SL.val ?_ ?_ (Runs.assign rfl) ?_; rfl; rfl) | (refine SL.val ?_ ?_ (Runs.extract rfl rfl) ?_; rfl; rfl) | (refine SL.val ?_ ?_ (Runs.nilCheck rfl) ?_; rfl; rfl) | (refine SL.val ?_ ?_ (Runs.pickT rfl rfl) ?_; rfl; rfl) | (refine SL.val ?_ ?_ (Runs.pickF rfl rfl) ?_; rfl; rfl) | (refine SL.val ?_ ?_ (Runs.len rfl sl22) ?_; rfl; rfl) | (refine SL.val ?_ ?_ (Runs.len rfl sl23) ?_; rfl; rfl) | (refine SL.val ?_ ?_ (Runs.len rfl sl27) ?_; rfl; rfl) | (refine SL.val ?_ ?_ (Runs.len rfl sl28) ?_; rfl; rfl) | (refine SL.val ?_ ?_ (Runs.len rfl sl39) ?_; rfl; rfl) | (refine SL.val ?_ ?_ (Runs.len rfl sl64) ?_; rfl; rfl) | (refine SL.val ?_ ?_ (Runs.len rfl sl68) ?_; rfl; rfl) | (refine SL.val ?_ ?_ (Runs.len rfl sl86) ?_; rfl; rfl) | (refine SL.val ?_ ?_ (Runs.len rfl sl113) ?_; rfl; rfl) | (refine SL.pass ?_ ?_ ?_; rfl; rfl))
        refine SL.val rfl rfl (Runs.idx rfl rfl Yba.underlying86 sz48 (m := C3.length + 1) (by rw [hz1]) (by omega)) ?_
        refine SL.val rfl rfl (Runs.loadAgg (cs := kc x) rfl na48 sz48 (fun j v hv => hs0.row.cell kc_len gx hv)) ?_
        repeat (first | (refine SL.val ?_ ?_ (Runs.move rfl) ?_; rfl; rfl) | (refine SL.val ?_ ?_ (Runs.assign rfl) ?_; rfl; rfl) | (refine SL.val ?_ ?_ (Runs.extract rfl rfl) ?_; rfl; rfl) | (refine SL.val ?_ ?_ (Runs.nilCheck rfl) ?_; rfl; rfl) | (refine SL.val ?_ ?_ (Runs.pickT rfl rfl) ?_; rfl; rfl) | (refine SL.val ?_ ?_ (Runs.pickF rfl rfl) ?_; rfl; rfl) | (refine SL.val ?_ ?_ (Runs.len rfl sl22) ?_; rfl; rfl) | (refine SL.val ?_ ?_ (Runs.len rfl sl23) ?_; rfl; rfl) | (refine SL.val ?_ ?_ (Runs.len rfl sl27) ?_; rfl; rfl) | (refine SL.val ?_ ?_ (Runs.len rfl sl28) ?_; rfl; rfl) | (refine SL.val ?_ ?_ (Runs.len rfl sl39) ?_; rfl; rfl) | (refine SL.val ?_ ?_ (Runs.len rfl sl64) ?_; rfl; rfl) | (refine SL.val ?_ ?_ (Runs.len rfl sl68) ?_; rfl; rfl) | (refine SL.val ?_ ?_ (Runs.len rfl sl86) ?_; rfl; rfl) | (refine SL.val ?_ ?_ (Runs.len rfl sl113) ?_; rfl; rfl) | (refine SL.pass ?_ ?_ ?_; rfl; rfl))
        refine SL.val rfl rfl (Runs.sub rfl rfl (r := (C3.length : Int)) (wI (by rw [hz1]; omega) (by omega) (by omega))) ?_
        refine SL.val rfl rfl (Runs.idx rfl rfl Yba.underlying86 sz48 rfl (by omega)) ?_
        refine SL.val rfl rfl (Runs.loadAgg (cs := kc z) rfl na48 sz48 (fun j v hv => hs0.row.cell kc_len gz hv)) ?_
        refine SL.nil ?_
        refine WL.call rfl rfl (RunsC.callV rfl rfl en16) (cmpK_any hs0.cx x z tx tz hx9 hz9 htx htz) ?_
        rintro e w3 ⟨rfl, hb3⟩
        refine ⟨_, rfl, ?_⟩
        have hs3 := hs0.below hb3
        refine WL.val rfl rfl (Runs.lss rfl rfl rfl) ?_
        repeat (first | (refine WL.val ?_ ?_ (Runs.move rfl) ?_; rfl; rfl) | (refine WL.val ?_ ?_ (Runs.assign rfl) ?_; rfl; rfl) | (refine WL.val ?_ ?_ (Runs.extract rfl rfl) ?_; rfl; rfl) | (refine WL.val ?_ ?_ (Runs.nilCheck rfl) ?_; rfl; rfl) | (refine WL.val ?_ ?_ (Runs.pickT rfl rfl) ?_; rfl; rfl) | (refine WL.val ?_ ?_ (Runs.pickF rfl rfl) ?_; rfl; rfl) | (refine WL.val ?_ ?_ (Runs.len rfl sl22) ?_; rfl; rfl) | (refine WL.val ?_ ?_ (Runs.len rfl sl23) ?_; rfl; rfl) | (refine WL.val ?_ ?_ (Runs.len rfl sl27) ?_; rfl; rfl) | (refine WL.val ?_ ?_ (Runs.len rfl sl28) ?_; rfl; rfl) | (refine WL.val ?_ ?_ (Runs.len rfl sl39) ?_; rfl; rfl) | (refine WL.val ?_ ?_ (Runs.len rfl sl64) ?_; rfl; rfl) | (refine WL.val ?_ ?_ (Runs.len rfl sl68) ?_; rfl; rfl) | (refine WL.val ?_ ?_ (Runs.len rfl sl86) ?_; rfl; rfl) | (refine WL.val ?_ ?_ (Runs.len rfl sl113) ?_; rfl; rfl) | (refine WL.pass ?_ ?_ ?_; rfl; rfl))
        refine WL.nil ?_
        repeat (first | refine AtExit.thenRet ?_ | refine AtExit.thenExit ?_ | refine AtExit.blockRet ?_ | refine AtExit.blockEnd ?_ | refine AtExit.blockExit ?_ | (refine AtExit.blockPast ?_ ?_; rfl))
        refine AtExit.go ?_
        refine WC.split rfl (fun hd => ?_) (fun hd => ?_)
        · have hd := fo_neg.1 (of_decide_eq_true hd)
          have hkl : kl inf M x z := by
            unfold kl
            rw [tmr_of htx, tmr_of htz]; exact hd
          refine WC.skip ?_
          repeat (first | refine AtExit.thenRet ?_ | refine AtExit.thenExit ?_ | refine AtExit.blockRet ?_ | refine AtExit.blockEnd ?_ | refine AtExit.blockExit ?_ | (refine AtExit.blockPast ?_ ?_; rfl))
          refine AtExit.go ?_
          have hb4 : Below w3.heap.size w3 w3.drew := below_drawn _ _ _
          have hs4 := hs3.below hb4
          have hs5 := hs4.put (i := C3.length + 1) (by omega) z
          have hl5 : ((C3 ++ [z] ++ x :: C2 ++ l0.drop (c + 1)).set (C3.length + 1) z).length = n := by rw [List.length_set]; exact hLen
          have hs6 := hs5.put (i := C3.length) (by omega) x
          rw [eL, set_twoN _ _ _ _ _ rfl] at hs6
          refine WC.seq (WC.block ?_)
          refine WC.held (fun _ => True) mixed rfl ?_
          refine HL.take 0 rfl (by kernel_rfl) (by kernel_rfl) (by kernel_rfl) (fun _ _ _ h => h) rfl rfl (fun _ _ => Runs.move rfl) trivial ?_
          refine HL.take 1 rfl (by kernel_rfl) (by kernel_rfl) (by kernel_rfl) (fun _ _ _ h => h) rfl rfl (fun _ _ => Runs.move rfl) trivial ?_
          refine HL.take 2 rfl (by kernel_rfl) (by kernel_rfl) (by kernel_rfl) (fun _ _ _ h => h) rfl rfl (fun _ _ => Runs.move rfl) trivial ?_
          refine HL.take 3 rfl (by kernel_rfl) (by kernel_rfl) (by kernel_rfl) (fun _ _ _ h => h) rfl rfl (fun _ _ => Runs.move rfl) trivial ?_
          refine HL.take 4 rfl (by kernel_rfl) (by kernel_rfl) (by kernel_rfl) (fun _ _ _ h => h) rfl rfl (fun _ _ => Runs.sub rfl rfl (r := (C3.length : Int)) (wI (by rw [hz1]; omega) (by omega) (by omega))) trivial ?_
          refine HL.take 5 rfl (by kernel_rfl) (by kernel_rfl) (by kernel_rfl) (fun _ _ _ h => h) rfl rfl (fun _ _ => Runs.move rfl) trivial ?_
          refine HL.take 6 rfl (by kernel_rfl) (by kernel_rfl) (by kernel_rfl) (fun _ _ _ h => h) rfl rfl (fun _ _ => Runs.move rfl) trivial ?_
          refine HL.take 7 rfl (by kernel_rfl) (by kernel_rfl) (by kernel_rfl) (fun _ _ _ h => h) rfl rfl (fun _ _ => Runs.sub rfl rfl (r := (C3.length : Int)) (wI (by rw [hz1]; omega) (by omega) (by omega))) trivial ?_
          refine HL.take 8 rfl (by kernel_rfl) (by kernel_rfl) (by kernel_rfl) (fun _ _ _ h => h) rfl rfl (fun _ _ => Runs.idx rfl rfl Yba.underlying86 sz48 rfl (by omega)) trivial ?_
          refine HL.take 10 rfl (by kernel_rfl) (by kernel_rfl) (by kernel_rfl) (fun _ _ _ h => h) rfl rfl (fun _ _ => Runs.move rfl) trivial ?_
          refine HL.take 11 rfl (by kernel_rfl) (by kernel_rfl) (by kernel_rfl) (fun _ _ _ h => h) rfl rfl (fun _ _ => Runs.move rfl) trivial ?_
          refine HL.take 12 rfl (by kernel_rfl) (by kernel_rfl) (by kernel_rfl) (fun _ _ _ h => h) rfl rfl (fun _ _ => Runs.idx rfl rfl Yba.underlying86 sz48 (m := C3.length + 1) (by rw [hz1]) (by omega)) trivial ?_
          refine HL.both (i := 9) (i' := 13) rfl rfl (by kernel_rfl) (by kernel_rfl) ⟨by kernel_rfl, rfl⟩ rfl rfl rfl ⟨rfl, rfl, rfl, rfl⟩ (Runs.loadAgg (cs := kc z) rfl na48 sz48 (fun j v hv => hs4.row.cell kc_len gz hv)) (Runs.loadAgg (cs := kc x) rfl na48 sz48 (fun j v hv => hs4.row.cell kc_len gx hv)) (fun _ => Runs.loadAgg (cs := kc z) rfl na48 sz48 (fun j v hv => hs4.row.cell kc_len gz hv)) (fun _ => Runs.loadAgg (cs := kc x) rfl na48 sz48 (fun j v hv => hs4.row.cell kc_len gx hv)) trivial ?_
          refine HL.take 14 rfl (by kernel_rfl) (by kernel_rfl) (by kernel_rfl) (fun _ _ _ h => h) rfl rfl (fun _ _ => Runs.idx rfl rfl Yba.underlying86 sz48 (m := C3.length + 1) (by rw [hz1]) (by omega)) trivial ?_
          refine HL.all1 (i := 15) (by kernel_rfl) ?_
          refine HO.skip rfl rfl (RunsS.storeMid rfl rfl (one48 z) sz48 (hs4.row.there kc_len (i := C3.length + 1) (by omega))) trivial ?_
          refine HL.take 16 rfl (by kernel_rfl) (by kernel_rfl) (by kernel_rfl) (fun _ _ _ h => h) rfl rfl (fun _ _ => Runs.idx rfl rfl Yba.underlying86 sz48 rfl (by omega)) trivial ?_
          refine HL.all1 (i := 17) (by kernel_rfl) ?_
          refine HO.skip rfl rfl (RunsS.storeMid rfl rfl (one48 x) sz48 (hs5.row.there kc_len (i := C3.length) (by omega))) trivial ?_
          refine HL.done (by kernel_rfl) ?_
          repeat (first | refine AtExit.thenRet ?_ | refine AtExit.thenExit ?_ | refine AtExit.blockRet ?_ | refine AtExit.blockEnd ?_ | refine AtExit.blockExit ?_ | (refine AtExit.blockPast ?_ ?_; rfl))
          refine AtExit.go ?_
          change WC _ _ _ _ _ ((w3.drew.setCells g (0 + (C3.length + 1) * 6) (kc z)).setCells g (0 + C3.length * 6) (kc x))
          generalize (w3.drew.setCells g (0 + (C3.length + 1) * 6) (kc z)).setCells g (0 + C3.length * 6) (kc x) = w6 at hs6 ⊢
          refine WC.region ?_
          repeat (first | (refine WL.val ?_ ?_ (Runs.move rfl) ?_; rfl; rfl) | (refine WL.val ?_ ?_ (Runs.assign rfl) ?_; rfl; rfl) | (refine WL.val ?_ ?_ (Runs.extract rfl rfl) ?_; rfl; rfl) | (refine WL.val ?_ ?_ (Runs.nilCheck rfl) ?_; rfl; rfl) | (refine WL.val ?_ ?_ (Runs.pickT rfl rfl) ?_; rfl; rfl) | (refine WL.val ?_ ?_ (Runs.pickF rfl rfl) ?_; rfl; rfl) | (refine WL.val ?_ ?_ (Runs.len rfl sl22) ?_; rfl; rfl) | (refine WL.val ?_ ?_ (Runs.len rfl sl23) ?_; rfl; rfl) | (refine WL.val ?_ ?_ (Runs.len rfl sl27) ?_; rfl; rfl) | (refine WL.val ?_ ?_ (Runs.len rfl sl28) ?_; rfl; rfl) | (refine WL.val ?_ ?_ (Runs.len rfl sl39) ?_; rfl; rfl) | (refine WL.val ?_ ?_ (Runs.len rfl sl64) ?_; rfl; rfl) | (refine WL.val ?_ ?_ (Runs.len rfl sl68) ?_; rfl; rfl) | (refine WL.val ?_ ?_ (Runs.len rfl sl86) ?_; rfl; rfl) | (refine WL.val ?_ ?_ (Runs.len rfl sl113) ?_; rfl; rfl) | (refine WL.pass ?_ ?_ ?_; rfl; rfl))
          refine WL.val rfl rfl (Runs.sub rfl rfl (r := (C3.length : Int)) (wI (by rw [hz1]; omega) (by omega) (by omega))) ?_
          repeat (first | (refine WL.val ?_ ?_ (Runs.move rfl) ?_; rfl; rfl) | (refine WL.val ?_ ?_ (Runs.assign rfl) ?_; rfl; rfl) | (refine WL.val ?_ ?_ (Runs.extract rfl rfl) ?_; rfl; rfl) | (refine WL.val ?_ ?_ (Runs.nilCheck rfl) ?_; rfl; rfl) | (refine WL.val ?_ ?_ (Runs.pickT rfl rfl) ?_; rfl; rfl) | (refine WL.val ?_ ?_ (Runs.pickF rfl rfl) ?_; rfl; rfl) | (refine WL.val ?_ ?_ (Runs.len rfl sl22) ?_; rfl; rfl) | (refine WL.val ?_ ?_ (Runs.len rfl sl23) ?_; rfl; rfl) | (refine WL.val ?_ ?_ (Runs.len rfl sl27) ?_; rfl; rfl) | (refine WL.val ?_ ?_ (Runs.len rfl sl28) ?_; rfl; rfl) | (refine WL.val ?_ ?_ (Runs.len rfl sl39) ?_; rfl; rfl) | (refine WL.val ?_ ?_ (Runs.len rfl sl64) ?_; rfl; rfl) | (refine WL.val ?_ ?_ (Runs.len rfl sl68) ?_; rfl; rfl) | (refine WL.val ?_ ?_ (Runs.len rfl sl86) ?_; rfl; rfl) | (refine WL.val ?_ ?_ (Runs.len rfl sl113) ?_; rfl; rfl) | (refine WL.pass ?_ ?_ ?_; rfl; rfl))
          refine WL.nil ?_
          repeat (first | refine AtExit.thenRet ?_ | refine AtExit.thenExit ?_ | refine AtExit.blockRet ?_ | refine AtExit.blockEnd ?_ | refine AtExit.blockExit ?_ | (refine AtExit.blockPast ?_ ?_; rfl))
          refine AtExit.inv fun av hv => ⟨(C3, z :: C2), hv.sub (by repeat (first | exact Sub.nil _ | refine Sub.cons rfl ?_)), ⟨by rw [← hCC]; simp, fun y hy => ?_, by simpa using hs6⟩, by show C3.length < (C3 ++ [z]).length; omega⟩
          rcases List.mem_cons.1 hy with rfl | hy
          · exact hkl
          · exact hlt y hy
        · have hd := of_decide_eq_false hd
          have hnk : ¬ kl inf M x z := fun h => hd (fo_neg.2 (by unfold kl at h; rw [tmr_of htx, tmr_of htz] at h; exact h))
          have hzx := hD.tot hxm hzm hxz hnk
          have hpre : (C3 ++ [z]).Pairwise (kl inf M) := by
            rw [← hCC, List.pairwise_append] at hsrt
            exact hsrt.1
          obtain ⟨f1, f2⟩ := fin (fun y hy => by
            rcases List.mem_append.1 hy with hy | hy
            · exact kl_trans ((List.pairwise_append.1 hpre).2.2 y hy z (by simp)) hzx
            · rw [List.mem_singleton.1 hy]; exact hzx)
          refine WC.exit ?_
          repeat (first | refine AtExit.thenRet ?_ | refine AtExit.thenExit ?_ | refine AtExit.blockRet ?_ | refine AtExit.blockEnd ?_ | refine AtExit.blockExit ?_ | (refine AtExit.blockPast ?_ ?_; rfl))
          refine AtExit.inv fun av hv => ⟨_, hv.sub (by repeat (first | exact Sub.nil _ | refine Sub.cons rfl ?_)), f1, f2, hs3⟩
    · rintro L' w3 ⟨g1, g2, g3⟩
      refine WC.region ?_
      repeat (first | (refine WL.val ?_ ?_ (Runs.move rfl) ?_; rfl; rfl) | (refine WL.val ?_ ?_ (Runs.assign rfl) ?_; rfl; rfl) | (refine WL.val ?_ ?_ (Runs.extract rfl rfl) ?_; rfl; rfl) | (refine WL.val ?_ ?_ (Runs.nilCheck rfl) ?_; rfl; rfl) | (refine WL.val ?_ ?_ (Runs.pickT rfl rfl) ?_; rfl; rfl) | (refine WL.val ?_ ?_ (Runs.pickF rfl rfl) ?_; rfl; rfl) | (refine WL.val ?_ ?_ (Runs.len rfl sl22) ?_; rfl; rfl) | (refine WL.val ?_ ?_ (Runs.len rfl sl23) ?_; rfl; rfl) | (refine WL.val ?_ ?_ (Runs.len rfl sl27) ?_; rfl; rfl) | (refine WL.val ?_ ?_ (Runs.len rfl sl28) ?_; rfl; rfl) | (refine WL.val ?_ ?_ (Runs.len rfl sl39) ?_; rfl; rfl) | (refine WL.val ?_ ?_ (Runs.len rfl sl64) ?_; rfl; rfl) | (refine WL.val ?_ ?_ (Runs.len rfl sl68) ?_; rfl; rfl) | (refine WL.val ?_ ?_ (Runs.len rfl sl86) ?_; rfl; rfl) | (refine WL.val ?_ ?_ (Runs.len rfl sl113) ?_; rfl; rfl) | (refine WL.pass ?_ ?_ ?_; rfl; rfl))
      refine WL.val rfl rfl (Runs.add rfl rfl (r := ((c + 1 : Nat) : Int)) (wI (by omega) (by omega) (by omega))) ?_
      repeat (first | (refine WL.val ?_ ?_ (Runs.move rfl) ?_; rfl; rfl) | (refine WL.val ?_ ?_ (Runs.assign rfl) ?_; rfl; rfl) | (refine WL.val ?_ ?_ (Runs.extract rfl rfl) ?_; rfl; rfl) | (refine WL.val ?_ ?_ (Runs.nilCheck rfl) ?_; rfl; rfl) | (refine WL.val ?_ ?_ (Runs.pickT rfl rfl) ?_; rfl; rfl) | (refine WL.val ?_ ?_ (Runs.pickF rfl rfl) ?_; rfl; rfl) | (refine WL.val ?_ ?_ (Runs.len rfl sl22) ?_; rfl; rfl) | (refine WL.val ?_ ?_ (Runs.len rfl sl23) ?_; rfl; rfl) | (refine WL.val ?_ ?_ (Runs.len rfl sl27) ?_; rfl; rfl) | (refine WL.val ?_ ?_ (Runs.len rfl sl28) ?_; rfl; rfl) | (refine WL.val ?_ ?_ (Runs.len rfl sl39) ?_; rfl; rfl) | (refine WL.val ?_ ?_ (Runs.len rfl sl64) ?_; rfl; rfl) | (refine WL.val ?_ ?_ (Runs.len rfl sl68) ?_; rfl; rfl) | (refine WL.val ?_ ?_ (Runs.len rfl sl86) ?_; rfl; rfl) | (refine WL.val ?_ ?_ (Runs.len rfl sl113) ?_; rfl; rfl) | (refine WL.pass ?_ ?_ ?_; rfl; rfl))
      refine WL.nil ?_
      repeat (first | refine AtExit.thenRet ?_ | refine AtExit.thenExit ?_ | refine AtExit.blockRet ?_ | refine AtExit.blockEnd ?_ | refine AtExit.blockExit ?_ | (refine AtExit.blockPast ?_ ?_; rfl))
      refine AtExit.inv fun av hv => ⟨(c + 1, L'), hv.sub (by repeat (first | exact Sub.nil _ | refine Sub.cons rfl ?_)), ⟨by omega, g1, g2, g3⟩, by show n - (c + 1) < n - c; omega⟩
  · refine WL.val rfl rfl (Runs.lss rfl rfl (decge hcl)) ?_
    refine WL.nil ?_
    repeat (first | refine AtExit.thenRet ?_ | refine AtExit.thenExit ?_ | refine AtExit.blockRet ?_ | refine AtExit.blockEnd ?_ | refine AtExit.blockExit ?_ | (refine AtExit.blockPast ?_ ?_; rfl))
    refine AtExit.go ?_
    refine WC.condF rfl ?_
    have d1 : l0.drop c = [] := List.drop_eq_nil_of_le (by omega)
    have d2 : l0.take c = l0 := List.take_of_length_le (by omega)
    rw [d1, List.append_nil] at hs
    rw [d2] at hp
    refine WC.exit ?_
    repeat (first | refine AtExit.thenRet ?_ | refine AtExit.thenExit ?_ | refine AtExit.blockRet ?_ | refine AtExit.blockEnd ?_ | refine AtExit.blockExit ?_ | (refine AtExit.blockPast ?_ ?_; rfl))
    exact post0e rfl ⟨rfl, L, hs, hp, hsrt⟩
end
end Go.Proofs.Ybulkgfdm
