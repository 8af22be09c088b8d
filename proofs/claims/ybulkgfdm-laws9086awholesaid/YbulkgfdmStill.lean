/- The frame logic for a region that draws its order and has a still head and a chain behind it. -/
import Derived.Test.YbulkgfdmCmp
import Derived.StillTail
namespace Go.Fr
open Go
section
variable {P : Program} {Q : Exit → Act → World → Prop} {n : Nat} {l : List (Nat × Value)} {w : World} {ops rest : List Oper} {K : Act → Prop}
structure SL (P : Program) (ops : List Oper) (K : Act → Prop) (n : Nat) (l : List (Nat × Value)) (rest : List Oper) (w : World) : Prop where
  on : ∀ a, Holds n l a → wpStill P ops.toArray w K rest a
theorem SL.nil {tail : List Oper} (h : WL P ops Q n l tail w) : SL P ops (fun a' => wpList P ops.toArray Q tail a' w) n l [] w := ⟨fun a ha => h.on a ha⟩
theorem SL.val {d : Tmp} {op : Op} {t : TypeId} {p : String} {af : Array Edge} {g : Option (Nat × Bool)} {v : Value} (hd : Nat.blt d n = true) (hg : wants ops l g = some true)
    (hr : Runs P n l op t w v w) (h : SL P ops K n ((d, v) :: l) rest w) : SL P ops K n l (⟨some d, op, t, p, af, g⟩ :: rest) w := by
  refine ⟨fun a ha => ?_⟩
  unfold wpStill
  rw [if_pos (ha.wants (o := ⟨some d, op, t, p, af, g⟩) hg)]
  unfold Oper.still
  rw [hr.on a (some d) p af g ha]
  exact ⟨rfl, h.on _ (ha.put hd v)⟩
theorem SL.pass {d : Tmp} {op : Op} {t : TypeId} {p : String} {af : Array Edge} {g : Option (Nat × Bool)} (hd : Nat.blt d n = true) (hg : wants ops l g = some false)
    (h : SL P ops K n ((d, undef) :: l) rest w) : SL P ops K n l (⟨some d, op, t, p, af, g⟩ :: rest) w := by
  refine ⟨fun a ha => ?_⟩
  unfold wpStill
  rw [if_neg (by rw [ha.wants (o := ⟨some d, op, t, p, af, g⟩) hg]; decide)]
  exact h.on _ (ha.put hd undef)
theorem WC.still {id : Nat} {L : List Oper} (k : Nat) (hm : P.follows .mixedOrders = true) (hB : Region.lexTailB .any L.toArray k = true)
    (h : SL P L (fun a' => wpList P L.toArray Q (L.drop k) a' w.drew) n l (L.take k) w.drew) : WC P Q n l (.region id L.toArray true) w :=
  ⟨fun a ha => wp_region_still_tail k hm hB (h.on a ha)⟩
theorem HL.sub {S : World → Prop} {fuel : Nat} {listed : Array Bool} {l' : List (Nat × Value)} (hs : Sub l' l) (h : HL P ops Q S n fuel listed l' w) : HL P ops Q S n fuel listed l w := ⟨fun a ha => h.on a (ha.sub hs)⟩
theorem Sub.swap {i j : Nat} {u v : Value} (hij : Nat.beq i j = false) : Sub ((i, u) :: (j, v) :: l) ((j, v) :: (i, u) :: l) := by
  intro k x hx
  unfold lk at hx ⊢
  by_cases h1 : i = k
  · subst h1
    rw [show Nat.beq i i = true from Nat.beq_refl i] at hx
    have hji : Nat.beq j i = false := by
      cases hb : Nat.beq j i with
      | false => rfl
      | true => exact absurd (Nat.eq_of_beq_eq_true hb).symm (Nat.ne_of_beq_eq_false hij)
    rw [hji]
    unfold lk
    rw [show Nat.beq i i = true from Nat.beq_refl i]
    exact hx
  · have hik : Nat.beq i k = false := by
      cases hb : Nat.beq i k with
      | false => rfl
      | true => exact absurd (Nat.eq_of_beq_eq_true hb) h1
    rw [hik] at hx
    simp only [cond_false] at hx
    unfold lk at hx
    cases hjk : Nat.beq j k with
    | true => rw [hjk] at hx; exact hx
    | false =>
      rw [hjk] at hx
      simp only [cond_false] at hx ⊢
      unfold lk
      rw [hik]
      exact hx
/-- Two reads, in whichever order. -/
theorem HL.both {S : World → Prop} {fuel : Nat} {listed : Array Bool} {i i' : Nat} {d d' : Tmp} {op op' : Op} {t t' : TypeId} {p p' : String} {af af' : Array Edge} {g g' : Option (Nat × Bool)} {v v' : Value}
    (hi : ops[i]? = some ⟨some d, op, t, p, af, g⟩) (hi' : ops[i']? = some ⟨some d', op', t', p', af', g'⟩) (hr : Region.ready .any ops.toArray listed = [i, i']) (hr1 : Region.ready .any ops.toArray (listed.setIfInBounds i true) = [i'])
    (hr2 : Region.ready .any ops.toArray (listed.setIfInBounds i' true) = [i] ∧ (listed.setIfInBounds i' true).setIfInBounds i true = (listed.setIfInBounds i true).setIfInBounds i' true) (hd : Nat.blt d n = true) (hd' : Nat.blt d' n = true) (hdd : Nat.beq d' d = false)
    (hg : wants ops l g = some true ∧ wants ops ((d', v') :: l) g = some true ∧ wants ops l g' = some true ∧ wants ops ((d, v) :: l) g' = some true)
    (h1 : Runs P n l op t w v w) (h2 : Runs P n l op' t' w v' w) (h1' : True → Runs P n ((d', v') :: l) op t w v w) (h2' : True → Runs P n ((d, v) :: l) op' t' w v' w) (hS : S w)
    (h : HL P ops Q S n fuel ((listed.setIfInBounds i true).setIfInBounds i' true) ((d', v') :: (d, v) :: l) w) : HL P ops Q S n (fuel + 1 + 1) listed l w := by
  refine HL.all2 hr ?_ ?_
  · refine HO.val hi hd hg.1 h1 hS ?_
    refine HL.all1 hr1 ?_
    exact HO.val hi' hd' hg.2.2.2 (h2' trivial) hS h
  · refine HO.val hi' hd' hg.2.2.1 h2 hS ?_
    refine HL.all1 hr2.1 ?_
    refine HO.val hi hd hg.2.1 (h1' trivial) hS ?_
    rw [hr2.2]
    exact HL.sub (Sub.swap hdd) h
end
end Go.Fr
