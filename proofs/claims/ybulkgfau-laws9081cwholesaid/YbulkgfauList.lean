/- Plain lists: the stable order, insertion, merging by rotation, chunks. No Go here. -/
import Derived.Test.YbulkgfauFacts
namespace Go.Proofs.Ybulkgfau
open Go

/-- A record: its number, its day, its kind, its place in the input. -/
structure Rc where
  seq : Int
  day : Int
  ek : Option Addr
  ix : Nat

/-- By the day, ties by the place in the input. -/
def lx (x y : Rc) : Prop := x.day < y.day ∨ (x.day = y.day ∧ x.ix < y.ix)
/-- By the place alone. -/
def lo (x y : Rc) : Prop := x.ix < y.ix

theorem lx.trans {x y z : Rc} (h : lx x y) (k : lx y z) : lx x z := by unfold lx at *; omega
theorem lx.asymm {x y : Rc} (h : lx x y) (k : lx y x) : False := by unfold lx at *; omega
theorem lx.le {x y : Rc} (h : lx x y) : x.day ≤ y.day := by unfold lx at h; omega

/-- The day at place t. -/
def dayI (l : List Rc) (t : Nat) : Int := ((l[t]?).map Rc.day).getD 0
theorem dayI_of {l : List Rc} {t : Nat} {x : Rc} (h : l[t]? = some x) : dayI l t = x.day := by simp [dayI, h]

theorem get_at (P : List Rc) (x : Rc) (S : List Rc) : (P ++ x :: S)[P.length]? = some x := by simp
theorem dayI_at (P : List Rc) (x : Rc) (S : List Rc) {t : Nat} (h : t = P.length) : dayI (P ++ x :: S) t = x.day := by subst h; exact dayI_of (get_at P x S)

theorem swap_split (P M S : List Rc) (x y : Rc) (i j : Nat) (hi : i = P.length) (hj : j = P.length + 1 + M.length) :
    ((P ++ x :: M ++ y :: S).set i y).set j x = P ++ y :: M ++ x :: S := by
  subst hi hj
  have e1 : (P ++ x :: M ++ y :: S).set P.length y = P ++ y :: (M ++ y :: S) := by
    rw [List.append_assoc, List.cons_append, List.set_append_right _ _ (Nat.le_refl _), Nat.sub_self]; rfl
  rw [e1, List.set_append_right _ _ (by omega), show P.length + 1 + M.length - P.length = M.length + 1 from by omega, List.set_cons_succ, List.set_append_right _ _ (Nat.le_refl _), Nat.sub_self]
  simp
theorem swap_split' (P M S : List Rc) (x y : Rc) (i j : Nat) (hi : i = P.length) (hj : j = P.length + 1 + M.length) :
    ((P ++ x :: M ++ y :: S).set j x).set i y = P ++ y :: M ++ x :: S := by
  rw [List.set_comm x y (by omega)]; exact swap_split P M S x y i j hi hj

/-- A sorted list's days climb. -/
theorem day_mono {A : List Rc} (h : A.Pairwise lx) {i j : Nat} {x y : Rc} (hi : A[i]? = some x) (hj : A[j]? = some y) (hij : i ≤ j) : x.day ≤ y.day := by
  rcases Nat.lt_or_eq_of_le hij with h' | h'
  · have hil : i < A.length := (List.getElem?_eq_some_iff.1 hi).1
    have hjl : j < A.length := (List.getElem?_eq_some_iff.1 hj).1
    have := List.pairwise_iff_getElem.1 h i j hil hjl h'
    rw [(List.getElem?_eq_some_iff.1 hi).2, (List.getElem?_eq_some_iff.1 hj).2] at this
    exact this.le
  · subst h'; rw [hi] at hj; cases hj; exact Int.le_refl _

theorem mem_get {A : List Rc} {x : Rc} (h : x ∈ A) : ∃ i, i < A.length ∧ A[i]? = some x := by
  obtain ⟨i, hi, e⟩ := List.getElem_of_mem h
  exact ⟨i, hi, by rw [List.getElem?_eq_getElem hi, e]⟩

/-- One more put in. -/
theorem ins_end {C1 C2 : List Rc} {x : Rc} (h : (C1 ++ C2).Pairwise lx) (h1 : ∀ y ∈ C1, lx y x) (h2 : ∀ y ∈ C2, lx x y) : (C1 ++ x :: C2).Pairwise lx := by
  rw [List.pairwise_append] at h ⊢
  obtain ⟨a, b, c⟩ := h
  refine ⟨a, List.pairwise_cons.2 ⟨h2, b⟩, fun u hu v hv => ?_⟩
  rcases List.mem_cons.1 hv with rfl | hv
  · exact h1 u hu
  · exact c u hu v hv

/-- All of a sorted list that ends with z lies before x. -/
theorem all_le_last {C : List Rc} {z x : Rc} (h : (C ++ [z]).Pairwise lx) (hz : z.day ≤ x.day) (hix : ∀ y ∈ C ++ [z], y.ix < x.ix) : ∀ y ∈ C ++ [z], lx y x := by
  intro y hy
  have hi := hix y hy
  have hd : y.day ≤ z.day := by
    rcases List.mem_append.1 hy with h' | h'
    · exact ((List.pairwise_append.1 h).2.2 y h' z (by simp)).le
    · rw [List.mem_singleton.1 h']; exact Int.le_refl _
  unfold lx; omega

theorem merge_join {A1 A2 B1 B2 C1 C2 : List Rc} (hA : (A1 ++ A2).Pairwise lx) (hB : (B1 ++ B2).Pairwise lx) (hix : ∀ x ∈ A1 ++ A2, ∀ y ∈ B1 ++ B2, x.ix < y.ix)
    (h12 : ∀ x ∈ A1, ∀ y ∈ B2, x.day ≤ y.day) (h21 : ∀ y ∈ B1, ∀ x ∈ A2, y.day < x.day) (p1 : C1.Perm (A1 ++ B1)) (p2 : C2.Perm (A2 ++ B2)) (s1 : C1.Pairwise lx) (s2 : C2.Pairwise lx) :
    (C1 ++ C2).Pairwise lx ∧ (C1 ++ C2).Perm (A1 ++ A2 ++ (B1 ++ B2)) := by
  constructor
  · rw [List.pairwise_append] at hA hB ⊢
    refine ⟨s1, s2, fun u hu v hv => ?_⟩
    rcases List.mem_append.1 (p1.mem_iff.1 hu) with hu | hu <;> rcases List.mem_append.1 (p2.mem_iff.1 hv) with hv | hv
    · exact hA.2.2 u hu v hv
    · have := h12 u hu v hv
      have := hix u (List.mem_append_left _ hu) v (List.mem_append_right _ hv)
      unfold lx; omega
    · exact Or.inl (h21 u hu v hv)
    · exact hB.2.2 u hu v hv
  · refine (p1.append p2).trans ?_
    rw [List.append_assoc, List.append_assoc]
    refine List.Perm.append_left _ ?_
    rw [← List.append_assoc, ← List.append_assoc]
    exact List.Perm.append_right _ List.perm_append_comm

/-- The two ways to put one among the others. -/
theorem one_left {x : Rc} {B1 B2 : List Rc} (hB : (B1 ++ B2).Pairwise lx) (hix : ∀ y ∈ B1 ++ B2, x.ix < y.ix) (h1 : ∀ y ∈ B1, y.day < x.day) (h2 : ∀ y ∈ B2, x.day ≤ y.day) : (B1 ++ x :: B2).Pairwise lx :=
  ins_end hB (fun y hy => Or.inl (h1 y hy)) fun y hy => by
    have := h2 y hy
    have := hix y (List.mem_append_right _ hy)
    unfold lx; omega
theorem one_right {x : Rc} {A1 A2 : List Rc} (hA : (A1 ++ A2).Pairwise lx) (hix : ∀ y ∈ A1 ++ A2, y.ix < x.ix) (h1 : ∀ y ∈ A1, y.day ≤ x.day) (h2 : ∀ y ∈ A2, x.day < y.day) : (A1 ++ x :: A2).Pairwise lx :=
  ins_end hA (fun y hy => by
    have := h1 y hy
    have := hix y (List.mem_append_left _ hy)
    unfold lx; omega) fun y hy => Or.inl (h2 y hy)

/-! ### Chunks -/
def Apart (c d : List Rc) : Prop := ∀ x ∈ c, ∀ y ∈ d, x.ix < y.ix
theorem Apart.perm {c c' d d' : List Rc} (h : Apart c d) (p : c'.Perm c) (q : d'.Perm d) : Apart c' d' := fun x hx y hy => h x (p.mem_iff.1 hx) y (q.mem_iff.1 hy)

/-- Chunks: each sorted, each of bs at most, all but the last of bs; the places climb from chunk to chunk. -/
structure Good (bs : Nat) (cs : List (List Rc)) : Prop where
  each : ∀ c ∈ cs, c.length ≤ bs ∧ c.Pairwise lx
  full : cs.Pairwise fun c _ => c.length = bs
  apart : cs.Pairwise Apart
/-- Chunks of bs each. -/
structure Full (bs : Nat) (cs : List (List Rc)) : Prop where
  each : ∀ c ∈ cs, c.length = bs ∧ c.Pairwise lx

theorem Full.len {bs : Nat} {cs : List (List Rc)} (h : Full bs cs) : cs.flatten.length = cs.length * bs := by
  have key : ∀ (cs : List (List Rc)), (∀ c ∈ cs, c.length = bs ∧ c.Pairwise lx) → cs.flatten.length = cs.length * bs := by
    intro cs
    induction cs with
    | nil => simp
    | cons c cs ih =>
      intro h
      rw [List.flatten_cons, List.length_append, ih fun d hd => h d (List.mem_cons_of_mem _ hd), (h c (List.mem_cons_self ..)).1, List.length_cons, Nat.succ_mul, Nat.add_comm]
  exact key cs h.each
theorem Full.snoc {bs : Nat} {cs : List (List Rc)} (h : Full bs cs) {c : List Rc} (hc : c.length = bs) (hs : c.Pairwise lx) : Full bs (cs ++ [c]) := by
  refine ⟨fun d hd => ?_⟩
  rcases List.mem_append.1 hd with hd | hd
  · exact h.each d hd
  · rw [List.mem_singleton.1 hd]; exact ⟨hc, hs⟩

/-- Full chunks, then one more. -/
theorem Full.good {bs : Nat} {cs : List (List Rc)} (h : Full bs cs) {c : List Rc} (hc : c.length ≤ bs) (hs : c.Pairwise lx) (ha : (cs ++ [c]).Pairwise Apart) : Good bs (cs ++ [c]) := by
  refine ⟨fun d hd => ?_, ?_, ha⟩
  · rcases List.mem_append.1 hd with hd | hd
    · exact ⟨Nat.le_of_eq (h.each d hd).1, (h.each d hd).2⟩
    · rw [List.mem_singleton.1 hd]; exact ⟨hc, hs⟩
  · rw [List.pairwise_append]
    refine ⟨?_, List.pairwise_singleton _ _, fun d hd _ _ => (h.each d hd).1⟩
    exact List.Pairwise.imp_of_mem (R := fun c d => True) (fun {d} {_} hd _ _ => (h.each d hd).1) (List.pairwise_of_forall fun _ _ => trivial)

/-- So few that one chunk holds all. -/
theorem Good.one {bs : Nat} {cs : List (List Rc)} (h : Good bs cs) (hl : cs.flatten.length ≤ bs) : cs.flatten.Pairwise lx := by
  match cs, h, hl with
  | [], _, _ => simp
  | [c], h, _ => simpa using (h.each c (by simp)).2
  | c :: d :: r, h, hl =>
    have hc : c.length = bs := (List.pairwise_cons.1 h.full).1 d (by simp)
    have : (d :: r).flatten = [] := by
      have e : (c :: d :: r).flatten = c ++ (d :: r).flatten := rfl
      rw [e, List.length_append] at hl
      exact List.length_eq_zero_iff.1 (by omega)
    rw [List.flatten_cons, this, List.append_nil]
    exact (h.each c (by simp)).2

/-- The next pair of full chunks. -/
theorem Good.two {bs : Nat} {cs : List (List Rc)} (h : Good bs cs) (hbs : 0 < bs) (hl : 2 * bs ≤ cs.flatten.length) : ∃ A B r, cs = A :: B :: r ∧ A.length = bs ∧ B.length = bs := by
  match cs, h, hl with
  | [], _, hl => simp at hl; omega
  | [c], h, hl =>
    have := (h.each c (by simp)).1
    simp at hl; omega
  | [c, d], h, hl =>
    have hc : c.length = bs := (List.pairwise_cons.1 h.full).1 d (by simp)
    have hd := (h.each d (by simp)).1
    simp at hl
    exact ⟨c, d, [], rfl, hc, by omega⟩
  | c :: d :: f :: r, h, _ =>
    have h' := List.pairwise_cons.1 h.full
    exact ⟨c, d, f :: r, rfl, h'.1 d (by simp), (List.pairwise_cons.1 h'.2).1 f (by simp)⟩
/-- What is left behind the last full pair. -/
theorem Good.last {bs : Nat} {cs : List (List Rc)} (h : Good bs cs) (hl : cs.flatten.length < 2 * bs) : (∃ A, cs.flatten = A ∧ A.length ≤ bs ∧ A.Pairwise lx) ∨ (∃ A B, cs = [A, B] ∧ A.length = bs ∧ 0 < B.length) := by
  match cs, h, hl with
  | [], _, _ => exact Or.inl ⟨[], rfl, by simp, by simp⟩
  | [c], h, _ => exact Or.inl ⟨c, by simp, (h.each c (by simp)).1, (h.each c (by simp)).2⟩
  | [c, d], h, hl =>
    have hc : c.length = bs := (List.pairwise_cons.1 h.full).1 d (by simp)
    rcases Nat.eq_zero_or_pos d.length with h0 | h0
    · refine Or.inl ⟨c, ?_, by omega, (h.each c (by simp)).2⟩
      rw [List.length_eq_zero_iff.1 h0]; simp
    · exact Or.inr ⟨c, d, rfl, hc, h0⟩
  | c :: d :: f :: r, h, hl =>
    have h' := List.pairwise_cons.1 h.full
    have hc := h'.1 d (by simp)
    have hd := (List.pairwise_cons.1 h'.2).1 f (by simp)
    simp at hl; omega
theorem Good.tail2 {bs : Nat} {A B : List Rc} {r : List (List Rc)} (h : Good bs (A :: B :: r)) : Good bs r :=
  ⟨fun c hc => h.each c (by simp [hc]), (List.pairwise_cons.1 (List.pairwise_cons.1 h.full).2).2, (List.pairwise_cons.1 (List.pairwise_cons.1 h.apart).2).2⟩

/-- Two chunks become one. -/
theorem apart_merge {ds r : List (List Rc)} {A B C : List Rc} (h : (ds ++ A :: B :: r).Pairwise Apart) (p : C.Perm (A ++ B)) : (ds ++ C :: r).Pairwise Apart := by
  rw [List.pairwise_append] at h ⊢
  obtain ⟨h1, h2, h3⟩ := h
  obtain ⟨a1, a2⟩ := List.pairwise_cons.1 h2
  obtain ⟨b1, b2⟩ := List.pairwise_cons.1 a2
  have hm : ∀ x, x ∈ C → x ∈ A ∨ x ∈ B := fun x hx => List.mem_append.1 (p.mem_iff.1 hx)
  refine ⟨h1, List.pairwise_cons.2 ⟨fun d hd x hx y hy => ?_, b2⟩, fun d hd e he x hx y hy => ?_⟩
  · rcases hm x hx with hx | hx
    · exact a1 d (by simp [hd]) x hx y hy
    · exact b1 d hd x hx y hy
  · rcases List.mem_cons.1 he with rfl | he
    · rcases hm y hy with hy | hy
      · exact h3 d hd A (by simp) x hx y hy
      · exact h3 d hd B (by simp) x hx y hy
    · exact h3 d hd e (by simp [he]) x hx y hy

/-- Two sorted lists of the same records are one. -/
theorem sorted_unique {l l' : List Rc} (h : l.Pairwise lx) (h' : l'.Pairwise lx) (p : l.Perm l') : l = l' :=
  p.eq_of_pairwise (fun _ _ _ _ a b => absurd b fun b => a.asymm b) h h'
end Go.Proofs.Ybulkgfau
