/- Rows of elements of k cells, of whatever type. -/
import Derived.Test.YbulkgfdmKeys
namespace Go.Proofs.Ybulkgfdm
open Go Go.Fr Go.RowKit

section
variable {α : Type} {enc : α → List Value} {k : Nat}
def flatA (enc : α → List Value) (l : List α) : List Value := l.flatMap enc
theorem flatA_append (l l' : List α) : flatA enc (l ++ l') = flatA enc l ++ flatA enc l' := by simp [flatA]
theorem flatA_cons (x : α) (l : List α) : flatA enc (x :: l) = enc x ++ flatA enc l := by simp [flatA]
theorem flatA_len (hk : ∀ x, (enc x).length = k) : ∀ l : List α, (flatA enc l).length = l.length * k
  | [] => by simp [flatA]
  | x :: l => by rw [flatA_cons, List.length_append, hk, flatA_len hk l, List.length_cons, Nat.succ_mul, Nat.add_comm]
theorem splitA {l : List α} {i : Nat} {x : α} (h : l[i]? = some x) : l = l.take i ++ x :: l.drop (i + 1) ∧ (l.take i).length = i := by
  have hi : i < l.length := (List.getElem?_eq_some_iff.1 h).1
  refine ⟨?_, by simp; omega⟩
  rw [← (List.getElem?_eq_some_iff.1 h).2, ← List.drop_eq_getElem_cons hi, List.take_append_drop]
theorem flatA_get (hk : ∀ x, (enc x).length = k) {l : List α} {i j : Nat} {x : α} {v : Value} (h : l[i]? = some x) (hv : (enc x)[j]? = some v) : (flatA enc l)[i * k + j]? = some v := by
  obtain ⟨e, hl⟩ := splitA h
  have hj : j < k := by rw [← hk x]; exact (List.getElem?_eq_some_iff.1 hv).1
  rw [e, flatA_append, flatA_cons, List.getElem?_append_right (by rw [flatA_len hk, hl]; omega), flatA_len hk, hl, show i * k + j - i * k = j from by omega, List.getElem?_append_left (by rw [hk]; exact hj)]
  exact hv

/-- Block g begins with the elements l. -/
def RwA (enc : α → List Value) (t : TypeId) (w : World) (g : Nat) (l : List α) : Prop := ∃ tail : List Value, w.heap[g]? = some (.cells (flatA enc l ++ tail).toArray t (0, 0))
section
variable {t : TypeId} {w w' : World} {g : Nat} {l : List α}
theorem RwA.lt (h : RwA enc t w g l) : g < w.heap.size := by obtain ⟨_, h⟩ := h; exact lt_of_heap h
theorem RwA.frozen (h : RwA enc t w g l) (o : Nat) : w.frozen? ⟨g, o, none⟩ = false := by obtain ⟨_, h⟩ := h; exact frozen_of h
theorem RwA.cell (hk : ∀ x, (enc x).length = k) (h : RwA enc t w g l) {i j : Nat} {x : α} {v : Value} (hx : l[i]? = some x) (hv : (enc x)[j]? = some v) : w.cell? ⟨g, 0 + i * k + j, none⟩ = some v := by
  obtain ⟨_, h⟩ := h
  have := flatA_get hk hx hv
  rw [cell_of h, Nat.zero_add, List.getElem?_toArray, List.getElem?_append_left (List.getElem?_eq_some_iff.1 this).1]
  exact this
theorem RwA.same (h : RwA enc t w g l) (e : w'.heap[g]? = w.heap[g]?) : RwA enc t w' g l := by obtain ⟨s, h⟩ := h; exact ⟨s, e.trans h⟩
theorem RwA.below (h : RwA enc t w g l) (hB : Below w.heap.size w w') : RwA enc t w' g l := h.same (hB.block g h.lt)
theorem RwA.there (hk : ∀ x, (enc x).length = k) (h : RwA enc t w g l) {i : Nat} (hi : i < l.length) : w.there g (0 + i * k) k := by
  intro j hj
  obtain ⟨x, hx⟩ : ∃ x, l[i]? = some x := ⟨_, List.getElem?_eq_getElem hi⟩
  have hj' : j < (enc x).length := by rw [hk x]; exact hj
  obtain ⟨v, hv⟩ : ∃ v, (enc x)[j]? = some v := ⟨_, List.getElem?_eq_getElem hj'⟩
  exact ⟨by rw [h.cell hk hx hv]; rfl, h.frozen _⟩
end

theorem heap_setCells (g : Nat) (t : TypeId) : ∀ (vs A X B : List Value) (w : World), X.length = vs.length → w.heap[g]? = some (.cells (A ++ X ++ B).toArray t (0, 0)) →
    (w.setCells g A.length vs).heap[g]? = some (.cells (A ++ vs ++ B).toArray t (0, 0))
  | [], A, X, B, w, hX, h => by
    have : X = [] := List.length_eq_zero_iff.1 hX
    subst this
    exact h
  | v :: vs, A, [], B, w, hX, h => by simp at hX
  | v :: vs, A, x :: X, B, w, hX, h => by
    rw [World.setCells]
    have h1 := heap_set (o := A.length) (v := v) h
    have e1 : ((A ++ x :: X ++ B).toArray.setIfInBounds A.length v) = ((A ++ [v]) ++ X ++ B).toArray := by
      apply Array.ext'
      simp [List.set_append_right]
    rw [e1] at h1
    have := heap_setCells g t vs (A ++ [v]) X B _ (by simpa using hX) h1
    rw [List.length_append, List.length_singleton] at this
    rw [this]
    simp
theorem chg_setCells (g : Nat) {m : Nat → Prop} (hm : m g) : ∀ (vs : List Value) (o : Nat) (w : World), Chg w (w.setCells g o vs) m
  | [], _, _ => Chg.refl _
  | v :: vs, o, w => by
    rw [World.setCells]
    exact (Chg.set w ⟨g, o, none⟩ v hm).trans (chg_setCells g hm vs (o + 1) _)
theorem RwA.put (hk : ∀ x, (enc x).length = k) {t : TypeId} {w : World} {g : Nat} {l : List α} (h : RwA enc t w g l) {i : Nat} (hi : i < l.length) (x : α) : RwA enc t (w.setCells g (0 + i * k) (enc x)) g (l.set i x) := by
  obtain ⟨s, h⟩ := h
  obtain ⟨e, hl⟩ := splitA (List.getElem?_eq_getElem hi)
  generalize hy : l[i] = y at e
  have e2 : flatA enc l ++ s = flatA enc (l.take i) ++ enc y ++ (flatA enc (l.drop (i + 1)) ++ s) := by
    conv => lhs; rw [e]
    rw [flatA_append, flatA_cons]
    simp
  rw [e2] at h
  have := heap_setCells g t (enc x) _ _ _ w (by rw [hk, hk]) h
  rw [flatA_len hk, hl] at this
  refine ⟨s, ?_⟩
  rw [Nat.zero_add, this, List.set_eq_take_append_cons_drop, if_pos hi, flatA_append, flatA_cons]
  simp

/-- The slice v holds l in a row of its own. -/
def OwnA (enc : α → List Value) (k : Nat) (t : TypeId) (N : Nat) (w : World) (v : Value) (l : List α) : Prop := w.ownsRow N t k v l.length (flatA enc l)
section
variable {t : TypeId} {N : Nat} {w w' : World} {v : Value} {l : List α}
theorem OwnA.nil (hk : ∀ x, (enc x).length = k) : OwnA enc k t N w (.slice none 0 0) [] := ⟨by rw [flatA_len hk], Or.inl ⟨rfl, rfl⟩⟩
theorem OwnA.shape (h : OwnA enc k t N w v l) : ∃ p c, v = .slice p l.length c := by
  rcases h.2 with ⟨rfl, h0⟩ | ⟨g, cap, cur, rfl, _⟩
  · exact ⟨none, 0, by rw [h0]⟩
  · exact ⟨_, _, rfl⟩
theorem OwnA.row (h : OwnA enc k t N w v l) (hne : 0 < l.length) : ∃ g cap, v = .slice (some ⟨g, 0, none⟩) l.length cap ∧ N ≤ g ∧ RwA enc t w g l := by
  rcases h.2 with ⟨_, h0⟩ | ⟨g, cap, cur, hv, hb, hg, _, _, _, htake⟩
  · omega
  · refine ⟨g, cap, hv, hb, cur.toList.drop (l.length * k), ?_⟩
    rw [hg, ← htake, List.take_append_drop]
theorem OwnA.same (h : OwnA enc k t N w v l) (hb : ∀ g, v.ownBlock = some g → w'.heap[g]? = w.heap[g]?) : OwnA enc k t N w' v l := by
  refine ⟨h.1, ?_⟩
  rcases h.2 with hn | ⟨g, cap, cur, rfl, hb', hg, rest⟩
  · exact Or.inl hn
  · exact Or.inr ⟨g, cap, cur, rfl, hb', (hb g rfl).trans hg, rest⟩
theorem OwnA.tag (h : OwnA enc k t N w v l) {g : Nat} (hg : v.ownBlock = some g) : N ≤ g ∧ ∃ c, w.heap[g]? = some (.cells c t (0, 0)) := by
  rcases h.2 with ⟨rfl, _⟩ | ⟨g', cap, cur, rfl, hb, hh, _⟩
  · cases hg
  · cases hg; exact ⟨hb, cur, hh⟩
theorem OwnA.below (h : OwnA enc k t N w v l) (hb : Below w.heap.size w w') : OwnA enc k t N w' v l := h.same fun g hg => by
  obtain ⟨_, c, hc⟩ := h.tag hg
  exact hb.block g (lt_of_heap hc)

/-- One more is appended. -/
theorem OwnA.add {T : TypeId} {z : Value} {bytes : Nat} (hk : ∀ x, (enc x).length = k) (h1 : ∀ x, ∀ u ∈ enc x, u.oneCell' = true) (hu : Yba.prog.underlying T = some (.slice t)) (hi : infoB Yba.prog t = some (some z, k, bytes)) (hz : z.cells.size = k) (hk0 : 0 < k) (hby : bytes ≤ 64)
    (h : OwnA enc k t N w v l) (hN : N ≤ w.heap.size) (hl : l.length < 5000) (x : α) :
    ∃ v' w', (Builtin.append_ #[T, T] T #[v, .slice (some ⟨w.heap.size, 0, none⟩) 1 1]).run Yba.prog (w.alloc (.cells (enc x).toArray t)) = .ok v' w' ∧ OwnA enc k t N w' v' (l ++ [x]) ∧ Chg w w' (fun g => v.ownBlock = some g) ∧
      (∀ g, v'.ownBlock = some g → v.ownBlock = some g ∨ w.heap.size ≤ g) ∧ (∃ g, v'.ownBlock = some g) := by
  have hb := below_new w (.cells (enc x).toArray t) (Nat.le_refl _)
  have h2 := h.below hb
  have hc := heap_new w (.cells (enc x).toArray t)
  obtain ⟨i, hi, hz0, hs, hbt⟩ := info_of hi
  have hby' : (l.length + 1) * bytes ≤ 140737488355328 := by
    have : (l.length + 1) * bytes ≤ 5000 * 64 := Nat.mul_le_mul (by omega) hby
    omega
  obtain ⟨v', w', hrun, hown, hgr, hnil, hloc⟩ := run_append_own_at (P := Yba.prog) (w.alloc (.cells (enc x).toArray t)) N T T t i z k bytes hu hi hz0 hs hbt hz hk0 v l.length (flatA enc l) h2
    ⟨w.heap.size, 0, none⟩ 1 1 (enc x) (by rw [hk, Nat.one_mul]) (fun j u hu => by rw [add_mk, cell_of hc, Nat.zero_add]; simpa using hu) (h1 x) (by simp only [maxLen]; omega) hby' (by rw [size_new]; omega)
  have hfl : flatA enc l ++ enc x = flatA enc (l ++ [x]) := by rw [flatA_append, flatA_cons]; simp [flatA]
  have hlen : l.length + 1 = (l ++ [x]).length := by simp
  rw [hfl, hlen] at hown
  refine ⟨v', w', hrun, hown, (Chg.of_below hb).trans ⟨hgr.os, hgr.tape, hgr.output, hgr.size, fun g hg hn => hgr.block g hg (fun e => hn e.symm)⟩, fun g hg => ?_, ?_⟩
  · rcases hloc with e | e
    · exact Or.inl (e ▸ hg)
    · rw [e] at hg
      cases hg
      right
      rw [size_new]; omega
  · rcases hown.2 with ⟨_, h0⟩ | ⟨g, cap, cur, rfl, _⟩
    · simp at h0
    · exact ⟨g, rfl⟩
end
end
end Go.Proofs.Ybulkgfdm
