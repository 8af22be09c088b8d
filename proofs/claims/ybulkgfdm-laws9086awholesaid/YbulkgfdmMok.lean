/- Plain laws of the map of back-offs. -/
import Derived.Test.YbulkgfdmUe
namespace Go.Proofs.Ybulkgfdm
open Go Go.Fr Go.RowKit

def rf : Nat × Option Nat → Option Nat
  | (x, some _) => some x
  | (_, none) => none
def rg : Nat × Option Nat → Option (Nat × Nat)
  | (x, some t) => some (x, t)
  | (_, none) => none
/-- The key of entry j, if its timer runs. -/
def rk (M : MapL) (j : Nat) : Option Nat := (M[j]?).bind rf
/-- The back-offs that run, with their timers. -/
def runs (M : MapL) : List (Nat × Nat) := M.filterMap rg
theorem runs_keys (M : MapL) : (runs M).map (·.1) = M.filterMap rf := by
  unfold runs
  rw [List.map_filterMap]
  congr 1
  funext p
  obtain ⟨x, t⟩ := p
  cases t <;> rfl
theorem rk_all (M : MapL) : (List.range M.length).filterMap (rk M) = (runs M).map (·.1) := by
  rw [runs_keys]
  have h : (List.range M.length).map (fun j => M[j]?) = M.map some := by
    apply List.ext_getElem?
    intro i
    rw [List.getElem?_map, List.getElem?_map]
    by_cases hi : i < M.length
    · rw [List.getElem?_range hi, List.getElem?_eq_getElem hi]; simp [hi]
    · rw [List.getElem?_eq_none (by simp; omega), List.getElem?_eq_none (by omega)]; rfl
  have h2 := congrArg (List.filterMap (fun o : Option (Nat × Option Nat) => o.bind rf)) h
  rw [List.filterMap_map, List.filterMap_map] at h2
  exact h2
theorem mem_runs {M : MapL} {x t : Nat} : (x, t) ∈ runs M ↔ (x, some t) ∈ M := by
  unfold runs
  rw [List.mem_filterMap]
  constructor
  · rintro ⟨⟨y, u⟩, h1, h2⟩
    cases u with
    | none => cases h2
    | some u => cases h2; exact h1
  · intro h
    exact ⟨_, h, rfl⟩
theorem look_of : ∀ {M : MapL} {x : Nat} {o : Option Nat}, (M.map (·.1)).Nodup → (x, o) ∈ M → lookM x M = some o
  | [], _, _, _, h => by cases h
  | (y, u) :: M, x, o, hn, h => by
    rw [List.map_cons, List.nodup_cons] at hn
    unfold lookM
    rcases List.mem_cons.1 h with h' | h'
    · cases h'; rw [if_pos rfl]
    · have : x ≠ y := fun e => hn.1 (by rw [← e]; exact List.mem_map.2 ⟨(x, o), h', rfl⟩)
      rw [if_neg this]
      exact look_of hn.2 h'

structure MOk (inf : Nat → TI) (M : MapL) (ts : List Nat) : Prop where
  K : AllK M
  nd : (M.map (·.1)).Nodup
  live : ∀ (j x t : Nat), M[j]? = some (x, some t) → t ∈ ts
  inj : ∀ (j j' x x' t : Nat), M[j]? = some (x, some t) → M[j']? = some (x', some t) → j = j'
  st : ∀ t ∈ ts, ∀ t' ∈ ts, t ≠ t' → (inf t).start ≠ (inf t').start
section
variable {inf : Nat → TI} {M : MapL} {ts : List Nat}
theorem MOk.keys (h : MOk inf M ts) : ((runs M).map (·.1)).Nodup := by
  rw [runs_keys]
  have hn := h.nd
  unfold List.Nodup at hn ⊢
  rw [List.pairwise_map] at hn
  refine hn.filterMap _ ?_
  rintro ⟨x, t⟩ ⟨y, u⟩ hne a ha b hb
  cases t with
  | none => cases ha
  | some t =>
    cases u with
    | none => cases hb
    | some u => cases ha; cases hb; exact hne
theorem MOk.tmrs (h : MOk inf M ts) : ((runs M).map (·.1)).map (tmr M) = (runs M).map (·.2) := by
  rw [List.map_map]
  refine List.map_congr_left fun p hp => ?_
  obtain ⟨x, t⟩ := p
  exact tmr_of (look_of h.nd (mem_runs.1 hp))
theorem MOk.keyd (h : MOk inf M ts) {l : List Nat} (hp : l.Perm ((runs M).map (·.1))) : Keyd inf M l := by
  have look : ∀ x ∈ l, ∃ t j, lookM x M = some (some t) ∧ M[j]? = some (x, some t) := fun x hx => by
    obtain ⟨⟨y, t⟩, h1, h2⟩ := List.mem_map.1 (hp.mem_iff.1 hx)
    cases h2
    have hm := mem_runs.1 h1
    obtain ⟨j, hj, e⟩ := List.getElem_of_mem hm
    exact ⟨t, j, look_of h.nd hm, by rw [List.getElem?_eq_getElem hj, e]⟩
  refine ⟨fun x hx => ?_, hp.nodup_iff.2 h.keys, fun x hx y hy hne => ?_⟩
  · obtain ⟨t, j, h1, h2⟩ := look x hx
    exact ⟨h.K _ (List.mem_of_getElem? h2), t, h1⟩
  · obtain ⟨t, j, h1, h2⟩ := look x hx
    obtain ⟨t', j', h1', h2'⟩ := look y hy
    rw [tmr_of h1, tmr_of h1']
    refine h.st t (h.live _ _ _ h2) t' (h.live _ _ _ h2') fun e => ?_
    subst e
    have := h.inj _ _ _ _ _ h2 h2'
    subst this
    rw [h2] at h2'
    cases h2'
    exact hne rfl
end
theorem nodup_short {l : List Nat} {n : Nat} (hn : l.Nodup) (h : ∀ x ∈ l, x < n) : l.length ≤ n := by
  have hp : l.Perm ((List.range n).filter (fun x => decide (x ∈ l))) := (List.perm_ext_iff_of_nodup hn (List.nodup_range.filter _)).2 fun x => by
    rw [List.mem_filter, List.mem_range]
    simp
    exact h x
  rw [hp.length_eq]
  exact Nat.le_trans (List.length_filter_le _ _) (by simp)
theorem seen_all {n : Nat} {seen : List Nat} (hn : seen.Nodup) (h1 : ∀ j ∈ seen, j < n) (h2 : ∀ j, j < n → j ∈ seen) : seen.Perm (List.range n) :=
  (List.perm_ext_iff_of_nodup hn List.nodup_range).2 fun j => by rw [List.mem_range]; exact ⟨h1 j, h2 j⟩
end Go.Proofs.Ybulkgfdm
