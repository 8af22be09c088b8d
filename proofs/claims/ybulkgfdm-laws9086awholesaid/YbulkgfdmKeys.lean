/- The map of back-offs: nine keys; look-up, insertion, ranging, clearing. -/
import Derived.Test.YbulkgfdmClk
namespace Go.Proofs.Ybulkgfdm
open Go Go.Fr Go.RowKit

/-- The three timers' names, the three DNNs. -/
def tB : Nat → ByteArray
  | 0 => ⟨#[84, 51, 51, 57, 54]⟩
  | 1 => ⟨#[84, 51, 53, 56, 52]⟩
  | _ => ⟨#[84, 51, 53, 56, 53]⟩
def dB : Nat → ByteArray
  | 0 => ⟨#[]⟩
  | 1 => ⟨#[105, 110, 116, 101, 114, 110, 101, 116]⟩
  | _ => ⟨#[105, 109, 115]⟩
/-- Key x's cells. -/
def kc (x : Nat) : List Value := [.string (tB (x % 3)), .string (dB (x / 3)), .int .u8 0, .int .u32 0, .bool false, .bool false]
def kv (x : Nat) : Value := .agg (kc x).toArray
theorem kc_one (x : Nat) : ∀ v ∈ kc x, v.oneCell' = true := by
  intro v hv
  simp only [kc, List.mem_cons, List.not_mem_nil, or_false] at hv
  rcases hv with rfl | rfl | rfl | rfl | rfl | rfl <;> rfl

theorem keq (w : World) : ∀ (x y : Nat), x < 9 → y < 9 → (Op.equal 48 (kv x) (kv y)).run Yba.prog w = .ok (decide (x = y)) w
  | 0, 0, _, _ => by kernel_rfl
  | 0, 1, _, _ => by kernel_rfl
  | 0, 2, _, _ => by kernel_rfl
  | 0, 3, _, _ => by kernel_rfl
  | 0, 4, _, _ => by kernel_rfl
  | 0, 5, _, _ => by kernel_rfl
  | 0, 6, _, _ => by kernel_rfl
  | 0, 7, _, _ => by kernel_rfl
  | 0, 8, _, _ => by kernel_rfl
  | 1, 0, _, _ => by kernel_rfl
  | 1, 1, _, _ => by kernel_rfl
  | 1, 2, _, _ => by kernel_rfl
  | 1, 3, _, _ => by kernel_rfl
  | 1, 4, _, _ => by kernel_rfl
  | 1, 5, _, _ => by kernel_rfl
  | 1, 6, _, _ => by kernel_rfl
  | 1, 7, _, _ => by kernel_rfl
  | 1, 8, _, _ => by kernel_rfl
  | 2, 0, _, _ => by kernel_rfl
  | 2, 1, _, _ => by kernel_rfl
  | 2, 2, _, _ => by kernel_rfl
  | 2, 3, _, _ => by kernel_rfl
  | 2, 4, _, _ => by kernel_rfl
  | 2, 5, _, _ => by kernel_rfl
  | 2, 6, _, _ => by kernel_rfl
  | 2, 7, _, _ => by kernel_rfl
  | 2, 8, _, _ => by kernel_rfl
  | 3, 0, _, _ => by kernel_rfl
  | 3, 1, _, _ => by kernel_rfl
  | 3, 2, _, _ => by kernel_rfl
  | 3, 3, _, _ => by kernel_rfl
  | 3, 4, _, _ => by kernel_rfl
  | 3, 5, _, _ => by kernel_rfl
  | 3, 6, _, _ => by kernel_rfl
  | 3, 7, _, _ => by kernel_rfl
  | 3, 8, _, _ => by kernel_rfl
  | 4, 0, _, _ => by kernel_rfl
  | 4, 1, _, _ => by kernel_rfl
  | 4, 2, _, _ => by kernel_rfl
  | 4, 3, _, _ => by kernel_rfl
  | 4, 4, _, _ => by kernel_rfl
  | 4, 5, _, _ => by kernel_rfl
  | 4, 6, _, _ => by kernel_rfl
  | 4, 7, _, _ => by kernel_rfl
  | 4, 8, _, _ => by kernel_rfl
  | 5, 0, _, _ => by kernel_rfl
  | 5, 1, _, _ => by kernel_rfl
  | 5, 2, _, _ => by kernel_rfl
  | 5, 3, _, _ => by kernel_rfl
  | 5, 4, _, _ => by kernel_rfl
  | 5, 5, _, _ => by kernel_rfl
  | 5, 6, _, _ => by kernel_rfl
  | 5, 7, _, _ => by kernel_rfl
  | 5, 8, _, _ => by kernel_rfl
  | 6, 0, _, _ => by kernel_rfl
  | 6, 1, _, _ => by kernel_rfl
  | 6, 2, _, _ => by kernel_rfl
  | 6, 3, _, _ => by kernel_rfl
  | 6, 4, _, _ => by kernel_rfl
  | 6, 5, _, _ => by kernel_rfl
  | 6, 6, _, _ => by kernel_rfl
  | 6, 7, _, _ => by kernel_rfl
  | 6, 8, _, _ => by kernel_rfl
  | 7, 0, _, _ => by kernel_rfl
  | 7, 1, _, _ => by kernel_rfl
  | 7, 2, _, _ => by kernel_rfl
  | 7, 3, _, _ => by kernel_rfl
  | 7, 4, _, _ => by kernel_rfl
  | 7, 5, _, _ => by kernel_rfl
  | 7, 6, _, _ => by kernel_rfl
  | 7, 7, _, _ => by kernel_rfl
  | 7, 8, _, _ => by kernel_rfl
  | 8, 0, _, _ => by kernel_rfl
  | 8, 1, _, _ => by kernel_rfl
  | 8, 2, _, _ => by kernel_rfl
  | 8, 3, _, _ => by kernel_rfl
  | 8, 4, _, _ => by kernel_rfl
  | 8, 5, _, _ => by kernel_rfl
  | 8, 6, _, _ => by kernel_rfl
  | 8, 7, _, _ => by kernel_rfl
  | 8, 8, _, _ => by kernel_rfl
theorem kcheck (w : World) (b : Bool) : ∀ (x : Nat), x < 9 → (Instr.checkKey b 10000 48 (kv x)).run Yba.prog w = .ok () w
  | 0, _ => by cases b <;> kernel_rfl
  | 1, _ => by cases b <;> kernel_rfl
  | 2, _ => by cases b <;> kernel_rfl
  | 3, _ => by cases b <;> kernel_rfl
  | 4, _ => by cases b <;> kernel_rfl
  | 5, _ => by cases b <;> kernel_rfl
  | 6, _ => by cases b <;> kernel_rfl
  | 7, _ => by cases b <;> kernel_rfl
  | 8, _ => by cases b <;> kernel_rfl

abbrev MapL := List (Nat × Option Nat)
def pvO : Option Nat → Value
  | none => .pointer none
  | some t => pv t
def ents : Nat → MapL → List MapEntry
  | _, [] => []
  | k, (x, t) :: M => { key := kv x, val := pvO t, born := k } :: ents (k + 1) M
theorem ents_len : ∀ (M : MapL) (k : Nat), (ents k M).length = M.length
  | [], _ => rfl
  | _ :: M, k => by rw [ents, List.length_cons, ents_len M, List.length_cons]
theorem ents_snoc (x : Nat) (t : Option Nat) : ∀ (M : MapL) (k : Nat), ents k (M ++ [(x, t)]) = ents k M ++ [{ key := kv x, val := pvO t, born := k + M.length }]
  | [], k => rfl
  | (y, u) :: M, k => by
    rw [List.cons_append, ents, ents_snoc x t M, ents, List.cons_append, List.length_cons]
    congr 4
    omega
theorem ents_get : ∀ (M : MapL) (k j : Nat) (x : Nat) (t : Option Nat), M[j]? = some (x, t) → (ents k M)[j]? = some { key := kv x, val := pvO t, born := k + j }
  | [], _, _, _, _, h => by cases h
  | (y, u) :: M, k, 0, x, t, h => by cases h; rfl
  | (y, u) :: M, k, j + 1, x, t, h => by
    rw [List.getElem?_cons_succ] at h
    rw [ents, List.getElem?_cons_succ, ents_get M (k + 1) j x t h]
    congr 2
    omega
/-- What is at key x. -/
def lookM (x : Nat) : MapL → Option (Option Nat)
  | [] => none
  | (y, t) :: M => if x = y then some t else lookM x M
theorem lookM_none {x : Nat} : ∀ {M : MapL}, lookM x M = none ↔ x ∉ M.map (·.1)
  | [] => by simp [lookM]
  | (y, t) :: M => by
    unfold lookM
    by_cases h : x = y
    · simp [h]
    · rw [if_neg h, lookM_none (M := M)]
      simp [h]

def AllK (M : MapL) : Prop := ∀ p ∈ M, p.1 < 9

theorem ask_run (x : Nat) (hx : x < 9) (w : World) : ∀ (M : MapL) (k i : Nat), AllK M → ∃ r, (Instr.findAsking 48 (kv x) (ents k M) i).run Yba.prog w = .ok r w ∧ r.map (·.2) = (lookM x M).map pvO
  | [], k, i, _ => ⟨none, rfl, rfl⟩
  | (y, t) :: M, k, i, h => by
    have hy : y < 9 := h (y, t) (by simp)
    unfold ents Instr.findAsking lookM
    simp only [Sem.run_bind, keq w x y hx hy, Result.andThen]
    by_cases hxy : x = y
    · rw [if_pos hxy, decide_eq_true hxy]
      exact ⟨_, rfl, rfl⟩
    · rw [if_neg hxy, decide_eq_false hxy]
      obtain ⟨r, h1, h2⟩ := ask_run x hx w M (k + 1) (i + 1) (fun p hp => h p (by simp [hp]))
      exact ⟨r, by simpa using h1, h2⟩
theorem und48 : (Yba.prog.underlying 48).map (fun d => match d with | .struct _ => true | _ => false) = some true := by kernel_rfl
theorem find_run (x : Nat) (hx : x < 9) (w : World) (M : MapL) (h : AllK M) : ∃ r, (Instr.findKey 48 (kv x) (ents 0 M)).run Yba.prog w = .ok r w ∧ r.map (·.2) = (lookM x M).map pvO := by
  cases hu : Yba.prog.underlying 48 with
  | none => have := und48; rw [hu] at this; cases this
  | some d =>
    have hd := und48
    rw [hu] at hd
    unfold Instr.findKey
    simp only [Sem.run_bind, run_underlying hu, Result.andThen]
    cases M with
    | nil => exact ⟨none, rfl, rfl⟩
    | cons p M =>
      obtain ⟨y, t⟩ := p
      have hnow : Instr.findNow d (kv x) (ents 0 ((y, t) :: M)) 0 = none := by
        unfold ents Instr.findNow
        have : Instr.sameNow d (kv x) (kv y) = none := by
          cases d <;> first | rfl | (simp at hd)
        simp only [this]
      rw [hnow]
      exact ask_run x hx w ((y, t) :: M) 0 0 h

/-- Block b is the map M. -/
def MapAt (w : World) (b : Nat) (M : MapL) : Prop := w.heap[b]? = some (.map (ents 0 M).toArray M.length)
theorem run_getMap {P : Program} {w : World} {r : Nat} {es : Array MapEntry} {c : Nat} (h : w.heap[r]? = some (.map es c)) : (getObj r).run P w = .ok (.map es c) w := by
  simp [getObj, Sem.run, h]
theorem run_getIter {P : Program} {w : World} {r : Nat} {m : Option Nat} {s : Nat} {q : Array Nat} {l : Nat} (h : w.heap[r]? = some (.mapIter m s q l)) : (getObj r).run P w = .ok (.mapIter m s q l) w := by
  simp [getObj, Sem.run, h]
theorem und56 : Yba.prog.underlying 56 = some (.map 48 42) := by kernel_rfl
theorem zero42 (w : World) : (zeroValue 42).run Yba.prog w = .ok (.pointer none) w := by kernel_rfl

theorem lookup_run (x : Nat) (hx : x < 9) (w : World) (b : Nat) (M : MapL) (hK : AllK M) (h : MapAt w b M) (ok : Bool) :
    (Instr.lookup 56 (.map (some b)) (kv x) ok).run Yba.prog w = .ok (if ok then .tuple #[((lookM x M).map pvO).getD (.pointer none), .bool (lookM x M).isSome] else ((lookM x M).map pvO).getD (.pointer none)) w := by
  obtain ⟨r, h1, h2⟩ := find_run x hx w M hK
  unfold Instr.lookup
  simp only [Sem.run_bind, run_underlying und56, Result.andThen, run_getMap h, Sem.run_pure, kcheck w _ x hx]
  rw [h1]
  cases r with
  | none =>
    have : lookM x M = none := by
      cases hl : lookM x M with
      | none => rfl
      | some t => rw [hl] at h2; cases h2
    rw [this]
    simp only [Sem.run_bind, zero42, Result.andThen, Sem.run_pure]
    cases ok <;> rfl
  | some p =>
    cases hl : lookM x M with
    | none => rw [hl] at h2; cases h2
    | some t =>
      rw [hl] at h2
      simp only [Option.map_some, Option.some.injEq] at h2
      simp only [h2]
      cases ok <;> rfl

/-- A block of whatever kind but cells is written. -/
def setO (w : World) (r : Nat) (o : Obj) : World := { w with heap := w.heap.setIfInBounds r o }
theorem setO_heap {w : World} {r : Nat} {o o' : Obj} (h : w.heap[r]? = some o') : (setO w r o).heap[r]? = some o := by
  have hr := lt_of_heap h
  simp [setO, hr]
theorem setO_other {w : World} {r k : Nat} {o : Obj} (h : k ≠ r) : (setO w r o).heap[k]? = w.heap[k]? := by
  simp only [setO, Array.getElem?_setIfInBounds]
  rw [if_neg (fun e => h e.symm)]
theorem setO_chg (w : World) (r : Nat) (o : Obj) {m : Nat → Prop} (hm : m r) : Chg w (setO w r o) m := ⟨rfl, rfl, rfl, by simp [setO], fun k _ hn => setO_other (fun e => hn (e ▸ hm))⟩
theorem run_setMap {P : Program} {w : World} {r : Nat} {es : Array MapEntry} {c : Nat} {o : Obj} (h : w.heap[r]? = some (.map es c)) : (setObj r o).run P w = .ok () (setO w r o) := by
  simp [setObj, Sem.run, h, setO]
theorem run_setIter {P : Program} {w : World} {r : Nat} {m : Option Nat} {s : Nat} {q : Array Nat} {l : Nat} {o : Obj} (h : w.heap[r]? = some (.mapIter m s q l)) : (setObj r o).run P w = .ok () (setO w r o) := by
  simp [setObj, Sem.run, h, setO]

theorem update_run (x : Nat) (hx : x < 9) (t : Option Nat) (w : World) (b : Nat) (M : MapL) (hK : AllK M) (h : MapAt w b M) (hn : lookM x M = none) :
    ∃ w', (Instr.mapUpdate 56 (.map (some b)) (kv x) (pvO t)).run Yba.prog w = .ok () w' ∧ MapAt w' b (M ++ [(x, t)]) ∧ Chg w w' (fun k => k = b) ∧ w'.heap.size = w.heap.size := by
  obtain ⟨r, h1, h2⟩ := find_run x hx w M hK
  have hr : r = none := by
    cases r with
    | none => rfl
    | some p => rw [hn] at h2; cases h2
  subst hr
  refine ⟨_, ?_, ?_, setO_chg w b (.map ((ents 0 M).toArray.push { key := kv x, val := pvO t, born := M.length }) (M.length + 1)) rfl, by simp [setO]⟩
  · unfold Instr.mapUpdate
    simp only [Sem.run_bind, run_underlying und56, Result.andThen, run_getMap h, kcheck w _ x hx]
    rw [h1]
    exact run_setMap h
  · unfold MapAt
    rw [setO_heap h, ents_snoc, Nat.zero_add, List.push_toArray, List.length_append]
    rfl

/-! ### Ranging -/
def IterAt (w : World) (r b : Nat) (M : MapL) (seen : List Nat) : Prop := w.heap[r]? = some (.mapIter (some b) M.length seen.toArray M.length)
theorem mem_ents {e : MapEntry} : ∀ {M : MapL} {k : Nat}, e ∈ ents k M → ∃ (j x : Nat) (t : Option Nat), M[j]? = some (x, t) ∧ e = { key := kv x, val := pvO t, born := k + j }
  | [], _, h => by cases h
  | (y, u) :: M, k, h => by
    rw [ents] at h
    rcases List.mem_cons.1 h with rfl | h
    · exact ⟨0, y, u, rfl, rfl⟩
    · obtain ⟨j, x, t, h1, h2⟩ := mem_ents h
      exact ⟨j + 1, x, t, h1, by rw [h2]; congr 1; omega⟩
theorem ents_lt {e : MapEntry} {M : MapL} (h : e ∈ ents 0 M) : e.born < M.length := by
  obtain ⟨j, x, t, h1, rfl⟩ := mem_ents h
  have := (List.getElem?_eq_some_iff.1 h1).1
  show 0 + j < _
  omega
theorem ents_find : ∀ (M : MapL) (k j x : Nat) (t : Option Nat), M[j]? = some (x, t) → (ents k M).find? (fun e => e.born == k + j) = some { key := kv x, val := pvO t, born := k + j }
  | [], _, _, _, _, h => by cases h
  | (y, u) :: M, k, 0, x, t, h => by cases h; simp [ents]
  | (y, u) :: M, k, j + 1, x, t, h => by
    rw [List.getElem?_cons_succ] at h
    rw [ents, List.find?_cons_of_neg (by simp)]
    have := ents_find M (k + 1) j x t h
    rw [show k + 1 + j = k + (j + 1) from by omega] at this
    exact this

theorem next_run (w : World) (r b : Nat) (M : MapL) (seen : List Nat) (hM : MapAt w b M) (hI : IterAt w r b M seen) (ty : TypeId) :
    ((∀ j, j < M.length → j ∈ seen) ∧ (Instr.next (.pointer (some ⟨r, 0, none⟩)) false ty).run Yba.prog w = .ok (.tuple #[.bool false]) w) ∨
    ∃ (j x : Nat) (t : Option Nat) (w' : World), M[j]? = some (x, t) ∧ j ∉ seen ∧ (Instr.next (.pointer (some ⟨r, 0, none⟩)) false ty).run Yba.prog w = .ok (.tuple #[.bool true, kv x, pvO t]) w' ∧ IterAt w' r b M (seen ++ [j]) ∧ Chg w w' (fun k => k = r) := by
  obtain ⟨L, hL⟩ : ∃ L, L = (ents 0 M).filter (fun e => !seen.contains e.born) := ⟨_, rfl⟩
  have hLm : ∀ e, e ∈ L ↔ e ∈ ents 0 M ∧ e.born ∉ seen := fun e => by
    rw [hL, List.mem_filter]
    simp
  have hguard : (!seen.toArray.isEmpty && !(ents 0 M).toArray.isEmpty && (ents 0 M).toArray.all (fun e => decide (M.length ≤ e.born))) = false := by
    cases hE : ents 0 M with
    | nil => simp
    | cons e es =>
      have : e.born < M.length := ents_lt (by rw [hE]; simp)
      have hd : decide (M.length ≤ e.born) = false := decide_eq_false (by omega)
      simp [hd]
  have hold : L.filter (fun e => decide (e.born < M.length)) = L := List.filter_eq_self.2 fun e he => decide_eq_true (ents_lt ((hLm e).1 he).1)
  have hnew : L.filter (fun e => decide (M.length ≤ e.born)) = [] := List.filter_eq_nil_iff.2 fun e he => by
    have := ents_lt ((hLm e).1 he).1
    simp; omega
  obtain ⟨last, main⟩ : ∃ last : String, (Instr.next (.pointer (some ⟨r, 0, none⟩)) false ty).run Yba.prog w = ((choose (.mapNext ((if L.isEmpty then #[none] else #[]) ++ (L.map some).toArray).size)).run Yba.prog w).andThen fun i w =>
      Sem.run Yba.prog (match ((if L.isEmpty then #[none] else #[]) ++ (L.map some).toArray)[i]? with
        | some (some e) => do
          setObj r (.mapIter (some b) M.length (seen.toArray.push e.born) M.length)
          pure (.tuple #[.bool true, e.key, e.val])
        | some none => pure (.tuple #[.bool false])
        | none => stuck last) w := by
    apply Exists.intro
    unfold Instr.next
    simp only [Sem.run_bind, run_getIter hI, Result.andThen, run_getMap hM]
    have hge : (fun e : MapEntry => decide (e.born ≥ M.length)) = fun e => decide (M.length ≤ e.born) := rfl
    rw [hge, hguard]
    simp only [Bool.false_eq_true, if_false, Sem.run_bind]
    have e1 : (ents 0 M).toArray.filter (fun e => !seen.toArray.contains e.born) = L.toArray := by
      rw [hL]; simp
    rw [e1]
    have e2 : L.toArray.filter (fun e => decide (e.born < M.length)) = L.toArray := by
      rw [List.filter_toArray, hold]
    have e3 : L.toArray.filter (fun e => decide (M.length ≤ e.born)) = #[] := by
      rw [List.filter_toArray, hnew]
    rw [e2, e3]
    simp only [Array.append_empty, List.map_toArray, List.isEmpty_toArray]
    rfl
  by_cases hLe : L = []
  · refine Or.inl ⟨fun j hj => ?_, ?_⟩
    · obtain ⟨p, hp⟩ : ∃ p, M[j]? = some p := ⟨_, List.getElem?_eq_getElem hj⟩
      obtain ⟨x, t⟩ := p
      have he := ents_get M 0 j x t hp
      have hm := List.mem_of_getElem? he
      by_cases hs : j ∈ seen
      · exact hs
      · have := (hLm _).2 ⟨hm, by simpa using hs⟩
        rw [hLe] at this
        cases this
    · rw [main, hLe]
      rfl
  · right
    have hne : L.isEmpty = false := by cases L with | nil => exact absurd rfl hLe | cons _ _ => rfl
    rw [hne] at main
    simp only [Bool.false_eq_true, if_false, List.append_toArray, List.nil_append, List.size_toArray, List.length_map] at main
    have hpos : 0 < L.length := List.length_pos_iff.2 hLe
    obtain ⟨i, w1, hi, hch, hw1⟩ : ∃ i w1, i < L.length ∧ (choose (.mapNext L.length)).run Yba.prog w = .ok i w1 ∧ (w1 = w ∨ w1 = w.drew) := by
      rw [run_choose_drew]
      by_cases hf : (Question.mapNext L.length).forced = true
      · rw [if_pos hf]; exact ⟨0, w, hpos, rfl, Or.inl rfl⟩
      · rw [if_neg hf]; exact ⟨_, w.drew, Nat.mod_lt _ hpos, rfl, Or.inr rfl⟩
    have hI1 : w1.heap[r]? = some (.mapIter (some b) M.length seen.toArray M.length) := by rcases hw1 with rfl | rfl <;> exact hI
    have hc1 : Chg w w1 (fun k => k = r) := by
      rcases hw1 with rfl | rfl
      · exact Chg.refl _
      · exact Chg.of_below (below_drawn _ _ _)
    obtain ⟨e, he⟩ : ∃ e, L[i]? = some e := ⟨_, List.getElem?_eq_getElem hi⟩
    obtain ⟨hm, hns⟩ := (hLm e).1 (List.mem_of_getElem? he)
    obtain ⟨j, x, t, hj, rfl⟩ := mem_ents hm
    refine ⟨j, x, t, setO w1 r (.mapIter (some b) M.length (seen.toArray.push (0 + j)) M.length), hj, by simpa using hns, ?_, ?_, hc1.trans (setO_chg _ _ _ rfl)⟩
    · rw [main, hch]
      have hget : (L.map some).toArray[i]? = some (some { key := kv x, val := pvO t, born := 0 + j }) := by
        rw [List.getElem?_toArray, List.getElem?_map, he]; rfl
      simp only [Result.andThen, hget, Sem.run_bind, run_setIter hI1, Sem.run_pure]
    · unfold IterAt
      rw [setO_heap hI1, List.push_toArray, Nat.zero_add]

theorem entry_run (w : World) (r b : Nat) (M : MapL) (seen : List Nat) (j x : Nat) (t : Option Nat) (hM : MapAt w b M) (hI : IterAt w r b M (seen ++ [j])) (hj : M[j]? = some (x, t)) :
    (Instr.entry (.pointer (some ⟨r, 0, none⟩))).run Yba.prog w = .ok (.tuple #[kv x, pvO t]) w := by
  have hf := ents_find M 0 j x t hj
  rw [Nat.zero_add] at hf
  have hb : (seen ++ [j]).toArray.back? = some j := by simp
  unfold Instr.entry
  simp only [Sem.run_bind, run_getIter hI, Result.andThen, hb, run_getMap hM, bne_self_eq_false, Bool.false_eq_true, if_false]
  have hf' : (ents 0 M).toArray.find? (fun e => e.born == j) = some { key := kv x, val := pvO t, born := j } := by rw [List.find?_toArray]; exact hf
  rw [hf']; rfl

/-! ### The operations -/
section
variable {n : Nat} {l : List (Nat × Value)} {w w' : World} {ty : TypeId}
theorem Runs.lookup {x y : Operand} {b k : Nat} {M : MapL} {ok : Bool} (hx : ev l x = some (.map (some b))) (hy : ev l y = some (kv k)) (hk : k < 9) (hK : AllK M) (h : MapAt w b M) :
    Runs Yba.prog n l (.lookup 56 x y ok) ty w (if ok then .tuple #[((lookM k M).map pvO).getD (.pointer none), .bool (lookM k M).isSome] else ((lookM k M).map pvO).getD (.pointer none)) w := by
  refine ⟨fun c d p af g ha => ?_⟩
  simp only [execOp, ha.ev hx, ha.ev hy, Sem.run_bind, lookup_run k hk w b M hK h ok, Result.andThen]; rfl
theorem RunsS.update {x y z : Operand} {b k : Nat} {t : Option Nat} (hx : ev l x = some (.map (some b))) (hy : ev l y = some (kv k)) (hz : ev l z = some (pvO t)) (h : (Instr.mapUpdate 56 (.map (some b)) (kv k) (pvO t)).run Yba.prog w = .ok () w') :
    RunsS Yba.prog n l (.mapUpdate 56 x y z) ty w w' := by
  refine ⟨fun c d p af g ha => ?_⟩
  simp only [execOp, ha.ev hx, ha.ev hy, ha.ev hz, Sem.run_bind, h, Result.andThen]; rfl
theorem Runs.makeMap : Runs Yba.prog n l (.makeMap 56 none) ty w (.map (some w.heap.size)) (w.alloc (.map #[] 0)) := ⟨fun c d p af g ha => by
  simp only [execOp, Instr.makeMap, Option.map_none]
  rfl⟩
theorem Runs.range {x : Operand} {b : Nat} {M : MapL} (hx : ev l x = some (.map (some b))) (h : MapAt w b M) : Runs Yba.prog n l (.range 56 x) ty w (.pointer (some ⟨w.heap.size, 0, none⟩)) (w.alloc (.mapIter (some b) M.length #[] M.length)) := by
  refine ⟨fun c d p af g ha => ?_⟩
  simp only [execOp, ha.ev hx, Instr.range, Sem.run_bind, run_underlying und56, Result.andThen, run_getMap h, Sem.run_pure, run_newObj_alloc]
theorem Runs.next {x : Operand} {a : Addr} {v : Value} (hx : ev l x = some (.pointer (some a))) (h : (Instr.next (.pointer (some a)) false ty).run Yba.prog w = .ok v w') : Runs Yba.prog n l (.next x false) ty w v w' := by
  refine ⟨fun c d p af g ha => ?_⟩
  simp only [execOp, ha.ev hx, Sem.run_bind, h, Result.andThen]; rfl
theorem Runs.entry {x : Operand} {a : Addr} {v : Value} (hx : ev l x = some (.pointer (some a))) (h : (Instr.entry (.pointer (some a))).run Yba.prog w = .ok v w) : Runs Yba.prog n l (.entry x) ty w v w := by
  refine ⟨fun c d p af g ha => ?_⟩
  simp only [execOp, ha.ev hx, Sem.run_bind, h, Result.andThen]; rfl
theorem Runs.lenMap {x : Operand} {b : Nat} {M : MapL} (hx : ev l x = some (.map (some b))) (h : MapAt w b M) : Runs Yba.prog n l (.call ⟨.builtin .len, #[x], #[56]⟩) ty w (.int .i64 (M.length : Int)) w :=
  Runs.builtin (args := [x]) (vs := [.map (some b)]) (by simp [evs, hx]) fun cs => by
    simp only [Go.builtin, Builtin.len_, Sem.run_bind]
    simp [run_underlying und56, run_getMap h, goInt, ents_len]
theorem Runs.clear {x : Operand} {b : Nat} {M : MapL} (hx : ev l x = some (.map (some b))) (h : MapAt w b M) : Runs Yba.prog n l (.call ⟨.builtin .clear, #[x], #[56]⟩) ty w (.tuple #[]) (setO w b (.map #[] M.length)) :=
  Runs.builtin (args := [x]) (vs := [.map (some b)]) (by simp [evs, hx]) fun cs => by
    simp only [Go.builtin, Builtin.clear_, Sem.run_bind]
    simp [run_underlying und56, run_getMap h, run_setMap h]
end
end Go.Proofs.Ybulkgfdm
