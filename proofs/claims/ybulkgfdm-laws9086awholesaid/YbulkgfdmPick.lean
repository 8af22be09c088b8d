/- Plain laws: choosing the least again and again sorts. -/
import Derived.Test.YbulkgfdmInv
namespace Go.Proofs.Ybulkgfdm
open Go Go.Fr Go.RowKit

def elt (a b : Ent) : Prop := a.2.1 < b.2.1 ∨ (a.2.1 = b.2.1 ∧ a.2.2 < b.2.2)
theorem elt_asymm {a b : Ent} (h : elt a b) (k : elt b a) : False := by unfold elt at *; omega
theorem elt_trans {a b c : Ent} (h : elt a b) (k : elt b c) : elt a c := by unfold elt at *; omega
theorem elt_irrefl (a : Ent) : ¬ elt a a := fun h => elt_asymm h h
theorem pw_weak {α : Type} {R S : α → α → Prop} (h : ∀ a b, R a b → S a b) : ∀ {l : List α}, l.Pairwise R → l.Pairwise S
  | [], _ => List.Pairwise.nil
  | x :: l, hl => by
    rw [List.pairwise_cons] at hl ⊢
    exact ⟨fun y hy => h x y (hl.1 y hy), pw_weak h hl.2⟩
def ek (e : Ent) : Nat × Int := (e.1, e.2.1)

theorem ents_sorted {inf : Nat → TI} {M : MapL} {ts L : List Nat} {now : Int} (hM : MOk inf M ts) (hs : ∀ t ∈ ts, 1 ≤ (inf t).start) (pL : L.Perm ((runs M).map (·.1))) (sL : L.Pairwise (kl inf M)) :
    ∃ Es : List Ent, Es.Perm ((runs M).map (en inf now)) ∧ Es.Pairwise elt ∧ Es.map ek = L.map (kp inf M now) := by
  have e1 : ((runs M).map (·.1)).map (fun x => en inf now (x, tmr M x)) = (runs M).map (en inf now) := by
    rw [List.map_map]
    refine List.map_congr_left fun p hp => ?_
    obtain ⟨x, t⟩ := p
    show en inf now (x, tmr M x) = en inf now (x, t)
    rw [tmr_of (look_of hM.nd (mem_runs.1 hp))]
  have hin : ∀ x ∈ L, 1 ≤ (inf (tmr M x)).start := fun x hx => by
    obtain ⟨p, hp, e⟩ := List.mem_map.1 (pL.mem_iff.1 hx)
    obtain ⟨y, t⟩ := p
    have e' : y = x := e
    subst e'
    rw [tmr_of (look_of hM.nd (mem_runs.1 hp))]
    exact hs t (hM.snd hp)
  refine ⟨L.map (fun x => en inf now (x, tmr M x)), by rw [← e1]; exact pL.map _, ?_, by rw [List.map_map]; rfl⟩
  rw [List.pairwise_map]
  refine pw_weak ?_ (List.Pairwise.and_mem.1 sL)
  rintro x y ⟨hx, hy, h⟩
  have a1 := hin x hx
  have a2 := hin y hy
  unfold kl at h
  unfold elt en
  show (inf (tmr M x)).due - now < (inf (tmr M y)).due - now ∨ (inf (tmr M x)).due - now = (inf (tmr M y)).due - now ∧ (inf (tmr M x)).start - 1 < (inf (tmr M y)).start - 1
  omega

/-- The flags: which entries are among the first n of the sorted list. -/
def Fl (E Es : List Ent) (n : Nat) (u : List Bool) : Prop := u.length = E.length ∧ ∀ (j : Nat) (e : Ent), E[j]? = some e → (u[j]? = some true ↔ e ∈ Es.take n)

theorem sorted_nodup {Es : List Ent} (h : Es.Pairwise elt) : Es.Nodup := pw_weak (fun a b hab e => by subst e; exact elt_irrefl _ hab) h
theorem nodup_inj {E : List Ent} (hn : E.Nodup) {i j : Nat} {e : Ent} (hi : E[i]? = some e) (hj : E[j]? = some e) : i = j := by
  obtain ⟨h1, e1⟩ := List.getElem?_eq_some_iff.1 hi
  obtain ⟨h2, e2⟩ := List.getElem?_eq_some_iff.1 hj
  exact (List.getElem_inj hn).1 (e1.trans e2.symm)

section
variable {E Es : List Ent} {n : Nat} {u : List Bool}
/-- A flag that is not up is down. -/
theorem Fl.at (h : Fl E Es n u) {j : Nat} {e : Ent} (hj : E[j]? = some e) : (u[j]? = some true ∧ e ∈ Es.take n) ∨ (u[j]? = some false ∧ e ∉ Es.take n) := by
  have hl : j < u.length := by rw [h.1]; exact (List.getElem?_eq_some_iff.1 hj).1
  cases hb : u[j] with
  | true =>
    have : u[j]? = some true := by rw [List.getElem?_eq_getElem hl, hb]
    exact Or.inl ⟨this, (h.2 j e hj).1 this⟩
  | false =>
    have hf : u[j]? = some false := by rw [List.getElem?_eq_getElem hl, hb]
    exact Or.inr ⟨hf, fun hm => by rw [(h.2 j e hj).2 hm] at hf; cases hf⟩

/-- The least of those not yet taken is the next of the sorted list. -/
theorem pick_is (hp : Es.Perm E) (hs : Es.Pairwise elt) (hn : n < E.length) {b : Nat} {eb : Ent} (hb : E[b]? = some eb) (hnb : eb ∉ Es.take n) (hmin : ∀ (j : Nat) (e : Ent), E[j]? = some e → e ∉ Es.take n → ¬ elt e eb) : Es[n]? = some eb := by
  have hlen : n < Es.length := by rw [hp.length_eq]; exact hn
  obtain ⟨x, hx⟩ : ∃ x, Es[n]? = some x := ⟨_, List.getElem?_eq_getElem hlen⟩
  obtain ⟨h1, h2⟩ := splitA hx
  have hsp := hs
  rw [h1, List.pairwise_append] at hsp
  have hxn : x ∉ Es.take n := fun hm => elt_irrefl x (hsp.2.2 x hm x (by simp))
  have hxE : x ∈ E := hp.mem_iff.1 (List.mem_of_getElem? hx)
  obtain ⟨j, hj, e⟩ := List.getElem_of_mem hxE
  have hxj : E[j]? = some x := by rw [List.getElem?_eq_getElem hj, e]
  have hbE : eb ∈ Es := hp.mem_iff.2 (List.mem_of_getElem? hb)
  rw [h1] at hbE
  rcases List.mem_append.1 hbE with h | h
  · exact absurd h hnb
  · rcases List.mem_cons.1 h with h | h
    · rw [hx, h]
    · exact absurd ((List.pairwise_cons.1 hsp.2.1).1 eb h) (hmin j x hxj hxn)
theorem some_left (hp : Es.Perm E) (hs : Es.Pairwise elt) (hn : n < E.length) : ∃ (j : Nat) (e : Ent), E[j]? = some e ∧ e ∉ Es.take n := by
  have hlen : n < Es.length := by rw [hp.length_eq]; exact hn
  obtain ⟨x, hx⟩ : ∃ x, Es[n]? = some x := ⟨_, List.getElem?_eq_getElem hlen⟩
  obtain ⟨h1, h2⟩ := splitA hx
  have hsp := hs
  rw [h1, List.pairwise_append] at hsp
  have hxn : x ∉ Es.take n := fun hm => elt_irrefl x (hsp.2.2 x hm x (by simp))
  obtain ⟨j, hj, e⟩ := List.getElem_of_mem (hp.mem_iff.1 (List.mem_of_getElem? hx))
  exact ⟨j, x, by rw [List.getElem?_eq_getElem hj, e], hxn⟩
theorem Fl.put (h : Fl E Es n u) (hnd : E.Nodup) {b : Nat} {eb : Ent} (hb : E[b]? = some eb) (hx : Es[n]? = some eb) : Fl E Es (n + 1) (u.set b true) := by
  refine ⟨by rw [List.length_set]; exact h.1, fun j e hj => ?_⟩
  have hbl : b < u.length := by rw [h.1]; exact (List.getElem?_eq_some_iff.1 hb).1
  rw [List.take_add_one, hx]
  by_cases hjb : b = j
  · subst hjb
    rw [hj] at hb
    cases hb
    rw [List.getElem?_set_self hbl]
    simp
  · rw [List.getElem?_set_ne hjb, h.2 j e hj]
    simp
    intro e'
    subst e'
    exact absurd (nodup_inj hnd hb hj) hjb
end
end Go.Proofs.Ybulkgfdm
