/-
  A FRAME LOGIC OF OUR OWN: a walk that knows only the slots that it was told of. 'Holds n l a': the frame a has n slots, no deferred call, and each slot that the list l names holds what l says.
  'WC', 'WL': the kit's 'Code.wp', 'wpList', from every frame that holds so. Each operation is a law 'Runs ..'; one step lemma serves them all. No program is named here.
-/
import Derived.WalkKit
import Derived.WalkLawsBesides
import Derived.Deep.Quiet
import Derived.OrdersHeld
namespace Go.Fr
open Go

/-- Look a slot up. -/
def lk : List (Nat × Value) → Nat → Option Value
  | [], _ => none
  | (j, v) :: l, i => bif Nat.beq j i then some v else lk l i

/-- What an operand is worth under the list. -/
def ev (l : List (Nat × Value)) : Operand → Option Value
  | .tmp t => lk l t
  | .const v => some v
  | .global g => some (.pointer (some ⟨g, 0, none⟩))
  | .func f => some (.func (.func f) #[] #[])

def evs (l : List (Nat × Value)) : List Operand → Option (List Value)
  | [] => some []
  | o :: os => match ev l o, evs l os with
    | some v, some vs => some (v :: vs)
    | _, _ => none

def evp (l : List (Nat × Value)) : List (Nat × Operand) → Option (List (Nat × Value))
  | [] => some []
  | (i, o) :: os => match ev l o, evp l os with
    | some v, some vs => some ((i, v) :: vs)
    | _, _ => none

structure Holds (n : Nat) (l : List (Nat × Value)) (a : Act) : Prop where
  size : a.tmps.size = n
  dfr : a.defers = []
  slot : ∀ i v, lk l i = some v → a.tmps[i]? = some v

theorem Holds.ev {n : Nat} {l : List (Nat × Value)} {a : Act} (h : Holds n l a) {o : Operand} {v : Value} (e : ev l o = some v) : a.eval o = v := by
  cases o with
  | tmp t =>
    have := h.slot t v e
    show a.tmps.getD t undef = v
    rw [Array.getD_eq_getD_getElem?, this]; rfl
  | const c => simpa [Fr.ev, Act.eval] using e
  | global g => simpa [Fr.ev, Act.eval] using e
  | func f => simpa [Fr.ev, Act.eval] using e

theorem Holds.evs {n : Nat} {l : List (Nat × Value)} {a : Act} (h : Holds n l a) : ∀ {os : List Operand} {vs : List Value}, evs l os = some vs → os.map a.eval = vs
  | [], vs, e => by simpa [Fr.evs] using e
  | o :: os, vs, e => by
    unfold Fr.evs at e
    split at e
    · rename_i v vs' h1 h2
      cases e
      rw [List.map_cons, h.ev h1, Holds.evs h h2]
    · cases e

theorem Holds.evp {n : Nat} {l : List (Nat × Value)} {a : Act} (h : Holds n l a) : ∀ {os : List (Nat × Operand)} {vs : List (Nat × Value)}, evp l os = some vs → os.map (fun p => (p.1, a.eval p.2)) = vs
  | [], vs, e => by simpa [Fr.evp] using e
  | (i, o) :: os, vs, e => by
    unfold Fr.evp at e
    split at e
    · rename_i v vs' h1 h2
      cases e
      rw [List.map_cons, h.ev h1, Holds.evp h h2]
    · cases e

theorem Holds.put {n : Nat} {l : List (Nat × Value)} {a : Act} (h : Holds n l a) {d : Nat} (hd : Nat.blt d n = true) (v : Value) : Holds n ((d, v) :: l) (a.put (some d) v) := by
  have hlt : d < n := by simpa using hd
  refine ⟨by simp [Act.put, h.size], by simp [Act.put, h.dfr], fun i u e => ?_⟩
  show (a.tmps.setIfInBounds d v)[i]? = some u
  rw [Array.getElem?_setIfInBounds]
  unfold lk at e
  by_cases hdi : d = i
  · subst hdi
    have : Nat.beq d d = true := Nat.beq_refl d
    rw [this] at e
    simp only [cond_true] at e
    rw [if_pos rfl, if_pos (by rw [h.size]; exact hlt)]; exact e
  · have : Nat.beq d i = false := by
      cases hb : Nat.beq d i with
      | false => rfl
      | true => exact absurd (Nat.eq_of_beq_eq_true hb) hdi
    rw [this] at e
    simp only [cond_false] at e
    rw [if_neg hdi]; exact h.slot i u e

theorem Holds.put0 {n : Nat} {l : List (Nat × Value)} {a : Act} (h : Holds n l a) (v : Value) : Holds n l (a.put none v) := h

/-- Every slot that l' names, l names so too. -/
def Sub (l' l : List (Nat × Value)) : Prop := ∀ i v, lk l' i = some v → lk l i = some v

theorem Sub.nil (l : List (Nat × Value)) : Sub [] l := fun _ _ h => by cases h
theorem Sub.cons {l' l : List (Nat × Value)} {i : Nat} {v : Value} (h : lk l i = some v) (hs : Sub l' l) : Sub ((i, v) :: l') l := by
  intro j u e
  unfold lk at e
  by_cases hij : i = j
  · subst hij
    rw [show Nat.beq i i = true from Nat.beq_refl i] at e
    simp only [cond_true] at e
    cases e; exact h
  · have : Nat.beq i j = false := by
      cases hb : Nat.beq i j with
      | false => rfl
      | true => exact absurd (Nat.eq_of_beq_eq_true hb) hij
    rw [this] at e
    simp only [cond_false] at e
    exact hs j u e
theorem Sub.refl (l : List (Nat × Value)) : Sub l l := fun _ _ h => h

theorem Holds.sub {n : Nat} {l l' : List (Nat × Value)} {a : Act} (h : Holds n l a) (hs : Sub l' l) : Holds n l' a := ⟨h.size, h.dfr, fun i v e => h.slot i v (hs i v e)⟩

/-- The arguments' slots when a function is entered. -/
def ix : Nat → List Value → List (Nat × Value)
  | _, [] => []
  | k, v :: vs => (k, v) :: ix (k + 1) vs

theorem lk_ix : ∀ (vs : List Value) (k i : Nat) (v : Value), lk (ix k vs) i = some v → k ≤ i ∧ vs[i - k]? = some v
  | [], _, _, _, h => by cases h
  | u :: us, k, i, v, h => by
    unfold ix lk at h
    by_cases hk : k = i
    · subst hk
      rw [show Nat.beq k k = true from Nat.beq_refl k] at h
      simp only [cond_true] at h
      cases h
      exact ⟨Nat.le_refl _, by simp⟩
    · have : Nat.beq k i = false := by
        cases hb : Nat.beq k i with
        | false => rfl
        | true => exact absurd (Nat.eq_of_beq_eq_true hb) hk
      rw [this] at h
      simp only [cond_false] at h
      obtain ⟨h1, h2⟩ := lk_ix us (k + 1) i v h
      refine ⟨by omega, ?_⟩
      rw [show i - k = (i - (k + 1)) + 1 from by omega, List.getElem?_cons_succ]
      exact h2

theorem Holds.enter {n : Nat} {vs : List Value} (h : Nat.ble vs.length n = true) : Holds n (ix 0 vs) { tmps := vs.toArray ++ Array.replicate (n - vs.toArray.size) undef, defers := [] } := by
  have hle : vs.length ≤ n := by simpa using h
  refine ⟨by simp; omega, rfl, fun i v e => ?_⟩
  obtain ⟨_, h2⟩ := lk_ix vs 0 i v e
  have h2' : vs[i]? = some v := by simpa using h2
  have hi : i < vs.length := by
    rcases Nat.lt_or_ge i vs.length with h' | h'
    · exact h'
    · rw [List.getElem?_eq_none h'] at h2'; cases h2'
  show (vs.toArray ++ _)[i]? = some v
  rw [Array.getElem?_append_left (by simpa using hi)]
  simpa using h2'

/-- Does the guard let the operation run? -/
def wants (ops : List Oper) (l : List (Nat × Value)) : Option (Nat × Bool) → Option Bool
  | none => some true
  | some (j, b) => match ((ops[j]?).bind (·.dst)).bind (lk l) with
    | some (.bool c) => some (c == b)
    | some (.tuple _) => some false
    | _ => none

theorem Holds.wants {n : Nat} {l : List (Nat × Value)} {a : Act} (h : Holds n l a) {ops : List Oper} {o : Oper} {b : Bool} (e : wants ops l o.guard = some b) :
    Region.wanted o (yielded ops.toArray a.tmps) = b := by
  unfold Region.wanted
  unfold Fr.wants at e
  cases hg : o.guard with
  | none => rw [hg] at e; simpa using e
  | some p =>
    obtain ⟨j, c⟩ := p
    rw [hg] at e
    simp only at e ⊢
    unfold yielded
    rw [List.getElem?_toArray]
    cases hd : (ops[j]?).bind (·.dst) with
    | none => rw [hd] at e; simp at e
    | some d =>
      rw [hd] at e
      simp only [Option.bind_some] at e ⊢
      cases hv : lk l d with
      | none => rw [hv] at e; simp at e
      | some v =>
        rw [hv] at e
        rw [h.slot d v hv]
        cases v <;> simp at e
        case bool x =>
          simp only
          rw [← e]
          cases x <;> cases c <;> rfl
        case tuple x =>
          subst e
          cases c <;> rfl

section
variable {P : Program} {Q : Exit → Act → World → Prop} {n : Nat} {l : List (Nat × Value)} {w w' : World} {ops rest : List Oper}

/-- A list of operations, from every frame that holds l. -/
structure WL (P : Program) (ops : List Oper) (Q : Exit → Act → World → Prop) (n : Nat) (l : List (Nat × Value)) (rest : List Oper) (w : World) : Prop where
  on : ∀ a, Holds n l a → wpList P ops.toArray Q rest a w

/-- A piece of code, from every frame that holds l. -/
structure WC (P : Program) (Q : Exit → Act → World → Prop) (n : Nat) (l : List (Nat × Value)) (c : Code) (w : World) : Prop where
  on : ∀ a, Holds n l a → c.wp P Q a w

/-- The operation yields v. -/
structure Runs (P : Program) (n : Nat) (l : List (Nat × Value)) (op : Op) (t : TypeId) (w : World) (v : Value) (w' : World) : Prop where
  on : ∀ (a : Act) (d : Option Tmp) (p : String) (af : Array Edge) (g : Option (Nat × Bool)), Holds n l a → (execOp a.eval ⟨d, op, t, p, af, g⟩).run P w = .ok (.value v) w'

/-- The operation yields nothing (a store). -/
structure RunsS (P : Program) (n : Nat) (l : List (Nat × Value)) (op : Op) (t : TypeId) (w : World) (w' : World) : Prop where
  on : ∀ (a : Act) (d : Option Tmp) (p : String) (af : Array Edge) (g : Option (Nat × Bool)), Holds n l a → (execOp a.eval ⟨d, op, t, p, af, g⟩).run P w = .ok .skip w'

/-- The operation enters function f. -/
structure RunsC (P : Program) (n : Nat) (l : List (Nat × Value)) (op : Op) (t : TypeId) (w : World) (f : FuncId) (args : Array Value) : Prop where
  on : ∀ (a : Act) (d : Option Tmp) (p : String) (af : Array Edge) (g : Option (Nat × Bool)), Holds n l a → (execOp a.eval ⟨d, op, t, p, af, g⟩).run P w = .ok (.enter f args) w

/-- What is asked at an exit. -/
structure AtExit (Q : Exit → Act → World → Prop) (e : Exit) (n : Nat) (l : List (Nat × Value)) (w : World) : Prop where
  on : ∀ a, Holds n l a → Q e a w

theorem AtExit.thenRet {K : Act → World → Prop} (h : AtExit Q .ret n l w) : AtExit (Exit.then K Q) .ret n l w := ⟨fun a ha => h.on a ha⟩
theorem AtExit.thenExit {K : Act → World → Prop} {id : Nat} (h : AtExit Q (.exit id) n l w) : AtExit (Exit.then K Q) (.exit id) n l w := ⟨fun a ha => h.on a ha⟩
theorem AtExit.blockRet {id : Nat} (h : AtExit Q .ret n l w) : AtExit (Exit.inBlock id Q) .ret n l w := ⟨fun a ha => h.on a ha⟩
theorem AtExit.blockEnd {id : Nat} (h : AtExit Q .normal n l w) : AtExit (Exit.inBlock id Q) .normal n l w := ⟨fun a ha => h.on a ha⟩
theorem AtExit.blockExit {id : Nat} (h : AtExit Q .normal n l w) : AtExit (Exit.inBlock id Q) (.exit id) n l w := ⟨fun a ha => by
  show (if id = id then _ else _)
  rw [if_pos rfl]; exact h.on a ha⟩
theorem AtExit.blockPast {id id' : Nat} (hne : Nat.beq id' id = false) (h : AtExit Q (.exit id') n l w) : AtExit (Exit.inBlock id Q) (.exit id') n l w := ⟨fun a ha => by
  show (if id' = id then _ else _)
  rw [if_neg (Nat.ne_of_beq_eq_false hne)]; exact h.on a ha⟩
theorem AtExit.inv {R : Act → World → Prop} (h : ∀ a, Holds n l a → R a w) : AtExit (Exit.then R Q) .normal n l w := ⟨fun a ha => h a ha⟩

theorem WL.nil (h : AtExit Q .normal n l w) : WL P ops Q n l [] w := ⟨fun a ha => h.on a ha⟩

theorem WL.val {d : Tmp} {op : Op} {t : TypeId} {p : String} {af : Array Edge} {g : Option (Nat × Bool)} {v : Value} (hd : Nat.blt d n = true) (hg : wants ops l g = some true)
    (hr : Runs P n l op t w v w') (h : WL P ops Q n ((d, v) :: l) rest w') : WL P ops Q n l (⟨some d, op, t, p, af, g⟩ :: rest) w := by
  refine ⟨fun a ha => ?_⟩
  unfold wpList
  rw [if_pos (ha.wants (o := ⟨some d, op, t, p, af, g⟩) hg)]
  refine .inl ?_
  unfold Oper.wp
  rw [hr.on a (some d) p af g ha]
  exact h.on _ (ha.put hd v)

theorem WL.val0 {op : Op} {t : TypeId} {p : String} {af : Array Edge} {g : Option (Nat × Bool)} {v : Value} (hg : wants ops l g = some true)
    (hr : Runs P n l op t w v w') (h : WL P ops Q n l rest w') : WL P ops Q n l (⟨none, op, t, p, af, g⟩ :: rest) w := by
  refine ⟨fun a ha => ?_⟩
  unfold wpList
  rw [if_pos (ha.wants (o := ⟨none, op, t, p, af, g⟩) hg)]
  refine .inl ?_
  unfold Oper.wp
  rw [hr.on a none p af g ha]
  exact h.on _ ha

theorem WL.skip {op : Op} {t : TypeId} {p : String} {af : Array Edge} {g : Option (Nat × Bool)} (hg : wants ops l g = some true)
    (hr : RunsS P n l op t w w') (h : WL P ops Q n l rest w') : WL P ops Q n l (⟨none, op, t, p, af, g⟩ :: rest) w := by
  refine ⟨fun a ha => ?_⟩
  unfold wpList
  rw [if_pos (ha.wants (o := ⟨none, op, t, p, af, g⟩) hg)]
  refine .inl ?_
  unfold Oper.wp
  rw [hr.on a none p af g ha]
  exact h.on _ ha

/-- The guard says no. -/
theorem WL.pass {d : Tmp} {op : Op} {t : TypeId} {p : String} {af : Array Edge} {g : Option (Nat × Bool)} (hd : Nat.blt d n = true) (hg : wants ops l g = some false)
    (h : WL P ops Q n ((d, undef) :: l) rest w) : WL P ops Q n l (⟨some d, op, t, p, af, g⟩ :: rest) w := by
  refine ⟨fun a ha => ?_⟩
  unfold wpList
  rw [if_neg (by rw [ha.wants (o := ⟨some d, op, t, p, af, g⟩) hg]; decide)]
  exact h.on _ (ha.put hd undef)

theorem WL.pass0 {op : Op} {t : TypeId} {p : String} {af : Array Edge} {g : Option (Nat × Bool)} (hg : wants ops l g = some false)
    (h : WL P ops Q n l rest w) : WL P ops Q n l (⟨none, op, t, p, af, g⟩ :: rest) w := by
  refine ⟨fun a ha => ?_⟩
  unfold wpList
  rw [if_neg (by rw [ha.wants (o := ⟨none, op, t, p, af, g⟩) hg]; decide)]
  exact h.on _ ha

/-- A call, by the callee's contract. -/
theorem WL.call {d : Tmp} {op : Op} {t : TypeId} {p : String} {af : Array Edge} {g : Option (Nat × Bool)} {f : FuncId} {args : Array Value} {R : Ending → World → Prop}
    (hd : Nat.blt d n = true) (hg : wants ops l g = some true) (hr : RunsC P n l op t w f args) (hc : Calls P f args w R)
    (h : ∀ e w', R e w' → ∃ v, e = .returned v ∧ WL P ops Q n ((d, v) :: l) rest w') : WL P ops Q n l (⟨some d, op, t, p, af, g⟩ :: rest) w := by
  refine ⟨fun a ha => ?_⟩
  unfold wpList
  rw [if_pos (ha.wants (o := ⟨some d, op, t, p, af, g⟩) hg)]
  refine .inl ?_
  unfold Oper.wp
  rw [hr.on a (some d) p af g ha]
  refine hc.mono fun e w' hR => ?_
  obtain ⟨v, rfl, hk⟩ := h e w' hR
  exact hk.on _ (ha.put hd v)

theorem WL.call0 {op : Op} {t : TypeId} {p : String} {af : Array Edge} {g : Option (Nat × Bool)} {f : FuncId} {args : Array Value} {R : Ending → World → Prop}
    (hg : wants ops l g = some true) (hr : RunsC P n l op t w f args) (hc : Calls P f args w R)
    (h : ∀ e w', R e w' → ∃ v, e = .returned v ∧ WL P ops Q n l rest w') : WL P ops Q n l (⟨none, op, t, p, af, g⟩ :: rest) w := by
  refine ⟨fun a ha => ?_⟩
  unfold wpList
  rw [if_pos (ha.wants (o := ⟨none, op, t, p, af, g⟩) hg)]
  refine .inl ?_
  unfold Oper.wp
  rw [hr.on a none p af g ha]
  refine hc.mono fun e w' hR => ?_
  obtain ⟨v, rfl, hk⟩ := h e w' hR
  exact hk.on _ ha

/-- Forget slots. -/
theorem WL.sub {l' : List (Nat × Value)} (hs : Sub l' l) (h : WL P ops Q n l' rest w) : WL P ops Q n l rest w := ⟨fun a ha => h.on a (ha.sub hs)⟩
theorem WC.sub {c : Code} {l' : List (Nat × Value)} (hs : Sub l' l) (h : WC P Q n l' c w) : WC P Q n l c w := ⟨fun a ha => h.on a (ha.sub hs)⟩

theorem WC.region {id : Nat} {L : List Oper} (h : WL P L Q n l L w) : WC P Q n l (.region id L.toArray false) w := ⟨fun a ha => wp_region_lit (h.on a ha)⟩
theorem WC.seq {x y : Code} (h : WC P (Exit.then (y.wp P Q) Q) n l x w) : WC P Q n l (.seq x y) w := ⟨fun a ha => wp_seq (h.on a ha)⟩
theorem WC.skip (h : AtExit Q .normal n l w) : WC P Q n l .skip w := ⟨fun a ha => wp_skip (h.on a ha)⟩
theorem WC.ret (h : AtExit Q .ret n l w) : WC P Q n l .ret w := ⟨fun a ha => wp_ret (h.on a ha)⟩
theorem WC.exit {id : Nat} (h : AtExit Q (.exit id) n l w) : WC P Q n l (.exit id) w := ⟨fun a ha => wp_exit (h.on a ha)⟩
theorem WC.block {id : Nat} {c : Code} (h : WC P (Exit.inBlock id Q) n l c w) : WC P Q n l (.block id c) w := ⟨fun a ha => wp_block (h.on a ha)⟩
theorem WC.cond {c : Operand} {x y : Code} {b : Bool} (hc : ev l c = some (.bool b)) (h : WC P Q n l (if b then x else y) w) : WC P Q n l (.cond c x y) w :=
  ⟨fun a ha => wp_cond (ha.ev hc) (h.on a ha)⟩
theorem WC.condT {c : Operand} {x y : Code} (hc : ev l c = some (.bool true)) (h : WC P Q n l x w) : WC P Q n l (.cond c x y) w := ⟨fun a ha => wp_cond_true (ha.ev hc) (h.on a ha)⟩
theorem WC.condF {c : Operand} {x y : Code} (hc : ev l c = some (.bool false)) (h : WC P Q n l y w) : WC P Q n l (.cond c x y) w := ⟨fun a ha => wp_cond_false (ha.ev hc) (h.on a ha)⟩
theorem WC.split {c : Operand} {x y : Code} {b : Bool} (hc : ev l c = some (.bool b)) (ht : b = true → WC P Q n l x w) (hf : b = false → WC P Q n l y w) : WC P Q n l (.cond c x y) w :=
  ⟨fun a ha => wp_cond_split (ha.ev hc) (fun e => (ht e).on a ha) (fun e => (hf e).on a ha)⟩

/-- What follows in a sequence. -/
theorem AtExit.go {c : Code} (h : WC P Q n l c w) : AtExit (Exit.then (c.wp P Q) Q) .normal n l w := ⟨fun a ha => h.on a ha⟩

/-- A LOOP: the state is told by an x of whatever type: the slots L x, the world I x, the measure m x. -/
theorem WC.loop {α : Type} (L : α → List (Nat × Value)) (I : α → World → Prop) (m : α → Nat) (x0 : α) {c : Code} (hs : Sub (L x0) l) (hI : I x0 w)
    (round : ∀ x w, I x w → WC P (Exit.then (fun a' w' => ∃ x', Holds n (L x') a' ∧ I x' w' ∧ m x' < m x) Q) n (L x) c w) : WC P Q n l (.loop c) w := by
  refine ⟨fun a ha b kk cs => ?_⟩
  have key : ∀ k : Nat, ∀ x w a, m x = k → I x w → Holds n (L x) a →
      ∃ e a' w', Q e a' w' ∧ Arrives P (lone (b.at a (.code c :: .inLoop c :: kk)) cs w) b kk cs e a' w' := by
    intro k
    induction k using Nat.strongRecOn with
    | _ k ih =>
      intro x w a hk hI ha
      obtain ⟨e, a₁, w₁, hq, harr⟩ := (round x w hI).on a ha b (.inLoop c :: kk) cs
      cases e with
      | normal =>
        obtain ⟨x', hh, hI', hlt⟩ := hq
        obtain ⟨e₂, a₂, w₂, hq₂, harr₂⟩ := ih (m x') (hk ▸ hlt) x' w₁ a₁ rfl hI' hh
        exact ⟨e₂, a₂, w₂, hq₂, .of_steps (Steps.trans harr (.one step_inLoop)) harr₂⟩
      | exit id => exact ⟨_, a₁, w₁, hq, .pass (x := .inLoop c) rfl (fun _ _ => .inl (by simp)) harr⟩
      | goto l => exact ⟨_, a₁, w₁, hq, .pass (x := .inLoop c) rfl (fun _ _ => .inl (by simp)) harr⟩
      | ret => exact ⟨_, a₁, w₁, hq, .pass (x := .inLoop c) rfl (fun _ _ => .inl (by simp)) harr⟩
      | panic ch => exact ⟨_, a₁, w₁, hq, .pass (x := .inLoop c) rfl (fun _ _ => .inl (by simp)) harr⟩
      | outgrown => exact ⟨_, a₁, w₁, hq, .pass (x := .inLoop c) rfl (fun _ _ => .inl (by simp)) harr⟩
  obtain ⟨e, a', w', hq, harr⟩ := key (m x0) x0 w a rfl hI (ha.sub hs)
  exact ⟨e, a', w', hq, .of_steps (.one step_loop) harr⟩

/-- A CUT in a sequence: what stands between the two, told by a z of whatever type. -/
theorem WC.cut {α : Type} (L : α → List (Nat × Value)) (J : α → World → Prop) {x y : Code} (h1 : WC P (Exit.then (fun a w => ∃ z, Holds n (L z) a ∧ J z w) Q) n l x w)
    (h2 : ∀ z w, J z w → WC P Q n (L z) y w) : WC P Q n l (.seq x y) w := by
  refine WC.seq ⟨fun a ha => Code.wp_mono ?_ (h1.on a ha)⟩
  intro e a' w' hq
  cases e with
  | normal => obtain ⟨z, hz, hJ⟩ := hq; exact (h2 z w' hJ).on a' hz
  | _ => exact hq

/-- A region that draws its order, all of whose operations are quiet in C. -/
structure QL (P : Program) (ops : List Oper) (C : World → Prop) (n : Nat) (K : Act → Prop) (l : List (Nat × Value)) (rest : List Oper) : Prop where
  on : ∀ a, Holds n l a → wpQuiet P ops.toArray C K rest a

theorem WC.quiet {id : Nat} {L : List Oper} (C : World → Prop) (hm : P.follows .mixedOrders = true) (hB : Region.lexB .any L.toArray = true) (hC : C { w with drawn := w.drawn + 1 })
    (h : QL P L C n (fun a' => ∀ w', C w' → Q .normal a' w') l L) : WC P Q n l (.region id L.toArray true) w := ⟨fun a ha => wp_region_quiet (C := C) hm hB hC (by simpa using h.on a ha)⟩

section
variable {C : World → Prop} {K : Act → Prop}
theorem QL.nil {Q : Exit → Act → World → Prop} (h : ∀ w, C w → AtExit Q .normal n l w) : QL P ops C n (fun a' => ∀ w', C w' → Q .normal a' w') l [] := ⟨fun a ha w hw => (h w hw).on a ha⟩
theorem QL.val {d : Tmp} {op : Op} {t : TypeId} {p : String} {af : Array Edge} {g : Option (Nat × Bool)} {v : Value} (hd : Nat.blt d n = true) (hg : wants ops l g = some true)
    (hr : ∀ w, C w → Runs P n l op t w v w) (h : QL P ops C n K ((d, v) :: l) rest) : QL P ops C n K l (⟨some d, op, t, p, af, g⟩ :: rest) := by
  refine ⟨fun a ha => ?_⟩
  unfold wpQuiet
  rw [if_pos (ha.wants (o := ⟨some d, op, t, p, af, g⟩) hg)]
  refine ⟨v, fun w hw => ?_, h.on _ (ha.put hd v)⟩
  unfold Oper.quietAt
  rw [(hr w hw).on a (some d) p af g ha]
  exact ⟨rfl, rfl⟩
theorem QL.pass {d : Tmp} {op : Op} {t : TypeId} {p : String} {af : Array Edge} {g : Option (Nat × Bool)} (hd : Nat.blt d n = true) (hg : wants ops l g = some false)
    (h : QL P ops C n K ((d, undef) :: l) rest) : QL P ops C n K l (⟨some d, op, t, p, af, g⟩ :: rest) := by
  refine ⟨fun a ha => ?_⟩
  unfold wpQuiet
  rw [if_neg (by rw [ha.wants (o := ⟨some d, op, t, p, af, g⟩) hg]; decide)]
  exact h.on _ (ha.put hd undef)
theorem QL.call {d : Tmp} {op : Op} {t : TypeId} {p : String} {af : Array Edge} {g : Option (Nat × Bool)} {v : Value} {f : FuncId} {args : Array Value} (hd : Nat.blt d n = true) (hg : wants ops l g = some true)
    (hr : ∀ w, C w → RunsC P n l op t w f args) (hc : ∀ w, C w → Calls P f args w fun e w' => e = .returned v ∧ C w') (h : QL P ops C n K ((d, v) :: l) rest) :
    QL P ops C n K l (⟨some d, op, t, p, af, g⟩ :: rest) := by
  refine ⟨fun a ha => ?_⟩
  unfold wpQuiet
  rw [if_pos (ha.wants (o := ⟨some d, op, t, p, af, g⟩) hg)]
  refine ⟨v, fun w hw => ?_, h.on _ (ha.put hd v)⟩
  unfold Oper.quietAt
  rw [(hr w hw).on a (some d) p af g ha]
  exact ⟨rfl, hc w hw⟩
end

/-! ### A region that draws its order and writes: the reads are taken first under S, the rest is parted -/
section
variable {S : World → Prop} {fuel : Nat} {listed : Array Bool}
structure HL (P : Program) (ops : List Oper) (Q : Exit → Act → World → Prop) (S : World → Prop) (n : Nat) (fuel : Nat) (listed : Array Bool) (l : List (Nat × Value)) (w : World) : Prop where
  on : ∀ a, Holds n l a → wpAnyH P .any ops.toArray Q S fuel listed a w
structure HO (P : Program) (ops : List Oper) (Q : Exit → Act → World → Prop) (S : World → Prop) (n : Nat) (fuel : Nat) (listed : Array Bool) (i : Nat) (l : List (Nat × Value)) (w : World) : Prop where
  on : ∀ a, Holds n l a → wpOp P ops.toArray Q i (fun a' w' => S w' ∧ wpAnyH P .any ops.toArray Q S fuel (listed.setIfInBounds i true) a' w') a w

theorem WC.held {id : Nat} {L : List Oper} {k : Nat} (S : World → Prop) (hm : P.follows .mixedOrders = true) (hk : L.length = k) (h : HL P L Q S n k (Array.replicate k false) l w.drew) : WC P Q n l (.region id L.toArray true) w :=
  ⟨fun a ha => wp_region_held (S := S) hm (by subst hk; simpa using h.on a ha)⟩
theorem HL.take (i : Nat) {d : Tmp} {op : Op} {t : TypeId} {p : String} {af : Array Edge} {g : Option (Nat × Bool)} {v : Value} (hi : ops[i]? = some ⟨some d, op, t, p, af, g⟩) (hs : Region.noSelect ops.toArray = true)
    (hf : Region.free .any ops.toArray listed i = true) (hr : (Region.ready .any ops.toArray listed).contains i = true) (hQ : ∀ c a w, Q (.panic c) (a.put (some d) v) w → Q (.panic c) a w)
    (hd : Nat.blt d n = true) (hg : wants ops l g = some true) (hy : ∀ w, S w → Runs P n l op t w v w) (hS : S w) (h : HL P ops Q S n fuel (listed.setIfInBounds i true) ((d, v) :: l) w) : HL P ops Q S n (fuel + 1) listed l w :=
  ⟨fun a ha => wpAnyH_take (i := i) (oi := ⟨some d, op, t, p, af, g⟩) (v := v) (by rw [List.getElem?_toArray]; exact hi) hs hf hr hQ
    (.inl ⟨ha.wants (o := ⟨some d, op, t, p, af, g⟩) hg, fun w hw => (hy w hw).on a (some d) p af g ha⟩) hS (h.on _ (ha.put hd v))⟩
theorem HL.all1 {i : Nat} (hr : Region.ready .any ops.toArray listed = [i]) (h : HO P ops Q S n fuel listed i l w) : HL P ops Q S n (fuel + 1) listed l w :=
  ⟨fun a ha => wpAnyH_all hr (by simp) (fun j hj => by simp at hj; subst hj; exact h.on a ha)⟩
theorem HL.all2 {i i' : Nat} (hr : Region.ready .any ops.toArray listed = [i, i']) (h : HO P ops Q S n fuel listed i l w) (h' : HO P ops Q S n fuel listed i' l w) : HL P ops Q S n (fuel + 1) listed l w :=
  ⟨fun a ha => wpAnyH_all hr (by simp) (fun j hj => by
    simp at hj
    rcases hj with rfl | rfl
    · exact h.on a ha
    · exact h'.on a ha)⟩
theorem HL.done (hr : Region.ready .any ops.toArray listed = []) (h : AtExit Q .normal n l w) : HL P ops Q S n fuel listed l w := ⟨fun a ha => wpAnyH_done hr (h.on a ha) fuel⟩
theorem HO.val {i : Nat} {d : Tmp} {op : Op} {t : TypeId} {p : String} {af : Array Edge} {g : Option (Nat × Bool)} {v : Value} (hi : ops[i]? = some ⟨some d, op, t, p, af, g⟩) (hd : Nat.blt d n = true) (hg : wants ops l g = some true)
    (hr : Runs P n l op t w v w') (hS : S w') (h : HL P ops Q S n fuel (listed.setIfInBounds i true) ((d, v) :: l) w') : HO P ops Q S n fuel listed i l w := by
  refine ⟨fun a ha => ?_⟩
  unfold wpOp
  rw [List.getElem?_toArray, hi]
  simp only
  rw [if_pos (ha.wants (o := ⟨some d, op, t, p, af, g⟩) hg)]
  refine .inl ?_
  unfold Oper.wp
  rw [hr.on a (some d) p af g ha]
  exact ⟨hS, h.on _ (ha.put hd v)⟩
theorem HO.skip {i : Nat} {op : Op} {t : TypeId} {p : String} {af : Array Edge} {g : Option (Nat × Bool)} (hi : ops[i]? = some ⟨none, op, t, p, af, g⟩) (hg : wants ops l g = some true)
    (hr : RunsS P n l op t w w') (hS : S w') (h : HL P ops Q S n fuel (listed.setIfInBounds i true) l w') : HO P ops Q S n fuel listed i l w := by
  refine ⟨fun a ha => ?_⟩
  unfold wpOp
  rw [List.getElem?_toArray, hi]
  simp only
  rw [if_pos (ha.wants (o := ⟨none, op, t, p, af, g⟩) hg)]
  refine .inl ?_
  unfold Oper.wp
  rw [hr.on a none p af g ha]
  exact ⟨hS, h.on _ ha⟩
theorem HO.call {i : Nat} {d : Tmp} {op : Op} {t : TypeId} {p : String} {af : Array Edge} {g : Option (Nat × Bool)} {f : FuncId} {args : Array Value} {R : Ending → World → Prop} (hi : ops[i]? = some ⟨some d, op, t, p, af, g⟩) (hd : Nat.blt d n = true)
    (hg : wants ops l g = some true) (hr : RunsC P n l op t w f args) (hc : Calls P f args w R)
    (h : ∀ e w', R e w' → ∃ v, e = .returned v ∧ S w' ∧ HL P ops Q S n fuel (listed.setIfInBounds i true) ((d, v) :: l) w') : HO P ops Q S n fuel listed i l w := by
  refine ⟨fun a ha => ?_⟩
  unfold wpOp
  rw [List.getElem?_toArray, hi]
  simp only
  rw [if_pos (ha.wants (o := ⟨some d, op, t, p, af, g⟩) hg)]
  refine .inl ?_
  unfold Oper.wp
  rw [hr.on a (some d) p af g ha]
  refine hc.mono fun e w' hR => ?_
  obtain ⟨v, rfl, hS, hk⟩ := h e w' hR
  exact ⟨hS, hk.on _ (ha.put hd v)⟩
end
end
end Go.Fr
