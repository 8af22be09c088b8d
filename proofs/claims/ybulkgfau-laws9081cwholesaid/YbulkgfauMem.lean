/- Rows of records in memory; laws of operations that the frame logic lacked. -/
import Derived.Test.YbulkgfauList
import Derived.Lib.ReflectliteSwap
import Derived.Laws.StructEq
import Derived.Lib.Builder
import Derived.Laws.Cover3
import Derived.Deep.Upon
import Derived.Deep.MidRow
import Derived.Laws.Externs
import Derived.Laws.AppendOwn
import Derived.Great.BuildSlice
namespace Go.Proofs.Ybulkgfau
open Go Go.Fr Go.RowKit

/-- A record's cells. -/
def enc (x : Rc) : List Value := [.int .i64 x.seq, .int .u64 (x.day % 1000000000), .int .i64 (x.day / 1000000000), .pointer none, .pointer x.ek]
theorem enc_len (x : Rc) : (enc x).length = 5 := rfl
theorem enc_one (x : Rc) : ∀ v ∈ enc x, v.oneCell' = true := by
  intro v hv
  simp only [enc, List.mem_cons, List.not_mem_nil, or_false] at hv
  rcases hv with rfl | rfl | rfl | rfl | rfl <;> rfl
def zeroRc : Rc := ⟨0, 0, none, 0⟩

def flat (l : List Rc) : List Value := l.flatMap enc
theorem flat_nil : flat [] = [] := rfl
theorem flat_append (l l' : List Rc) : flat (l ++ l') = flat l ++ flat l' := by simp [flat]
theorem flat_cons (x : Rc) (l : List Rc) : flat (x :: l) = enc x ++ flat l := by simp [flat]
theorem flat_len : ∀ l : List Rc, (flat l).length = l.length * 5
  | [] => rfl
  | x :: l => by rw [flat_cons, List.length_append, enc_len, flat_len l, List.length_cons]; omega
theorem flat_one (l : List Rc) : ∀ v ∈ flat l, v.oneCell' = true := by
  intro v hv
  obtain ⟨x, _, hx⟩ := List.mem_flatMap.1 hv
  exact enc_one x v hx
theorem split_at {l : List Rc} {i : Nat} {x : Rc} (h : l[i]? = some x) : l = l.take i ++ x :: l.drop (i + 1) ∧ (l.take i).length = i := by
  have hi : i < l.length := (List.getElem?_eq_some_iff.1 h).1
  refine ⟨?_, by simp; omega⟩
  have e := (List.getElem?_eq_some_iff.1 h).2
  rw [← e, ← List.drop_eq_getElem_cons hi, List.take_append_drop]
theorem flat_get {l : List Rc} {i k : Nat} {x : Rc} {v : Value} (h : l[i]? = some x) (hv : (enc x)[k]? = some v) : (flat l)[i * 5 + k]? = some v := by
  obtain ⟨e, hl⟩ := split_at h
  have hk : k < 5 := (List.getElem?_eq_some_iff.1 hv).1
  rw [e, flat_append, flat_cons, List.getElem?_append_right (by rw [flat_len, hl]; omega), flat_len, hl, show i * 5 + k - i * 5 = k from by omega, List.getElem?_append_left (by rw [enc_len]; exact hk)]
  exact hv

/-- A store, an allocation: nothing below turns. -/
theorem below_set (w : World) {a : Addr} (v : Value) {B : Nat} (h : B ≤ a.block) : Below B w (w.setCell a v) := (Below.refl _ _).setCell h v
theorem below_new (w : World) (o : Obj) {B : Nat} (h : B ≤ w.heap.size) : Below B w (w.alloc o) := (Below.refl _ _).alloc h o

/-- Block g begins with the records l. -/
structure Rw (w : World) (g : Nat) (l : List Rc) : Prop where
  ex : ∃ tail : List Value, w.heap[g]? = some (.cells (flat l ++ tail).toArray 36 (0, 0))

section
variable {w w' : World} {g : Nat} {l : List Rc}
theorem Rw.lt (h : Rw w g l) : g < w.heap.size := by obtain ⟨t, h⟩ := h.ex; exact lt_of_heap h
theorem Rw.frozen (h : Rw w g l) (o : Nat) : w.frozen? ⟨g, o, none⟩ = false := by obtain ⟨t, h⟩ := h.ex; exact frozen_of h
theorem Rw.cell (h : Rw w g l) {i k : Nat} {x : Rc} {v : Value} (hx : l[i]? = some x) (hv : (enc x)[k]? = some v) : w.cell? ⟨g, 0 + i * 5 + k, none⟩ = some v := by
  obtain ⟨t, h⟩ := h.ex
  have := flat_get hx hv
  rw [cell_of h, Nat.zero_add, List.getElem?_toArray, List.getElem?_append_left (List.getElem?_eq_some_iff.1 this).1]
  exact this
theorem Rw.date (h : Rw w g l) {i : Nat} {x : Rc} (hx : l[i]? = some x) : ∀ j v, [Value.int .u64 (x.day % 1000000000), .int .i64 (x.day / 1000000000), .pointer none][j]? = some v → w.cell? ⟨g, 0 + i * 5 + 1 + j, none⟩ = some v := by
  intro j v hv
  rw [Nat.add_assoc]
  refine h.cell hx ?_
  rw [Nat.add_comm 1 j]
  match j, hv with
  | 0, hv => exact hv
  | 1, hv => exact hv
  | 2, hv => exact hv
theorem Rw.same (h : Rw w g l) (e : w'.heap[g]? = w.heap[g]?) : Rw w' g l := by obtain ⟨t, h⟩ := h.ex; exact ⟨t, e.trans h⟩
theorem Rw.below (h : Rw w g l) {B : Nat} (hB : Below B w w') (hg : g < B) : Rw w' g l := h.same (hB.block g hg)
theorem Rw.alloc (h : Rw w g l) (o : Obj) : Rw (w.alloc o) g l := by obtain ⟨t, h⟩ := h.ex; exact ⟨t, heap_old h⟩
end

/-- A run of stores into one block. -/
theorem heap_setCells (g : Nat) (t : TypeId) : ∀ (vs A X B : List Value) (w : World), X.length = vs.length → w.heap[g]? = some (.cells (A ++ X ++ B).toArray t (0, 0)) →
    (w.setCells g A.length vs).heap[g]? = some (.cells (A ++ vs ++ B).toArray t (0, 0))
  | [], A, X, B, w, hX, h => by
    have : X = [] := List.length_eq_zero_iff.1 hX
    subst this
    exact h
  | v :: vs, A, [], B, w, hX, h => by simp at hX
  | v :: vs, A, x :: X, B, w, hX, h => by
    rw [World.setCells]
    have h1 := heap_set (o := A.length) (v := v) h
    have e1 : ((A ++ x :: X ++ B).toArray.setIfInBounds A.length v) = ((A ++ [v]) ++ X ++ B).toArray := by
      apply Array.ext'
      simp [List.set_append_right]
    rw [e1] at h1
    have := heap_setCells g t vs (A ++ [v]) X B _ (by simpa using hX) h1
    rw [List.length_append, List.length_singleton] at this
    rw [this]
    simp

theorem grown_setCells (w : World) (g o : Nat) (vs : List Value) : w.grownBy (w.setCells g o vs) (some g) := by
  have hs : ∀ (vs : List Value) (o : Nat) (w : World), w.grownBy (w.setCells g o vs) (some g) := by
    intro vs
    induction vs with
    | nil => intro o w; exact ⟨rfl, rfl, rfl, Nat.le_refl _, fun _ _ _ => rfl⟩
    | cons v vs ih =>
      intro o w
      have h := ih (o + 1) (w.setCell ⟨g, o, none⟩ v)
      rw [World.setCells]
      refine ⟨h.os, h.tape, h.output, by have := h.size; rw [size_set] at this; exact this, fun k hk hne => ?_⟩
      rw [h.block k (by rw [size_set]; exact hk) hne, Below.heap_setCell]
      exact fun e => hne (by rw [e])
  exact hs vs o w

theorem Rw.put {w : World} {g : Nat} {l : List Rc} (h : Rw w g l) {i : Nat} (hi : i < l.length) (x : Rc) : Rw (w.setCells g (0 + i * 5) (enc x)) g (l.set i x) := by
  obtain ⟨t, h⟩ := h.ex
  obtain ⟨e, hl⟩ := split_at (List.getElem?_eq_getElem hi)
  generalize hy : l[i] = y at e
  have e2 : flat l ++ t = flat (l.take i) ++ enc y ++ (flat (l.drop (i + 1)) ++ t) := by
    conv => lhs; rw [e]
    rw [flat_append, flat_cons]
    simp
  rw [e2] at h
  have := heap_setCells g 36 (enc x) _ _ _ w (by rw [enc_len, enc_len]) h
  rw [flat_len, hl] at this
  refine ⟨t, ?_⟩
  rw [Nat.zero_add, this, List.set_eq_take_append_cons_drop, if_pos hi, flat_append, flat_cons]
  simp

/-- Everything but row g, and new blocks. -/
theorem World.grownBy.trans' {a b c : World} {g : Option Nat} (h : a.grownBy b g) (k : b.grownBy c g) : a.grownBy c g :=
  ⟨k.os.trans h.os, k.tape.trans h.tape, k.output.trans h.output, Nat.le_trans h.size k.size, fun i hi hne => (k.block i (Nat.lt_of_lt_of_le hi h.size) hne).trans (h.block i hi hne)⟩
theorem grown_of_below {a b : World} (h : Below a.heap.size a b) (g : Option Nat) : a.grownBy b g := ⟨h.os, h.tape, h.output, h.size, fun i hi _ => h.block i hi⟩
theorem grown_refl (a : World) (g : Option Nat) : a.grownBy a g := ⟨rfl, rfl, rfl, Nat.le_refl _, fun _ _ _ => rfl⟩
theorem below_of_grown {a b : World} {g : Nat} {B : Nat} (h : a.grownBy b (some g)) (hB : B ≤ g) (hs : B ≤ a.heap.size) : Below B a b := ⟨h.os, h.tape, h.output, h.size, fun i hi => h.block i (by omega) (fun e => by cases e; omega)⟩
theorem grown_heap {a b : World} {g : Option Nat} (h : a.grownBy b g) {k : Nat} (hk : some k ≠ g) {x : Obj} (hx : a.heap[k]? = some x) : b.heap[k]? = some x := (h.block k (lt_of_heap hx) hk).trans hx

/-! ### Laws of operations -/
section
variable {P : Program} {n : Nat} {l : List (Nat × Value)} {w w' : World} {ty : TypeId}
/-- A function without a Go body is called. -/
theorem Runs.callX {f : FuncId} {x : Operand} {first cap : Array Value} {args : List Operand} {ts : Array TypeId} {vs : List Value} {v : Value} (hx : ev l x = some (.func (.func f) first cap)) (hv : evs l args = some vs)
    (he : (callFunc f (first ++ vs.toArray ++ cap)).run P w = .ok (.value v) w') : Runs P n l (.call ⟨.value x, args.toArray, ts⟩) ty w v w' := by
  refine ⟨fun c d p af g ha => ?_⟩
  have h1 : args.toArray.map c.eval = vs.toArray := by rw [List.map_toArray, ha.evs hv]
  simp only [execOp, resolve, h1, ha.ev hx, Deferred.ofValue, Sem.run_bind, Sem.run_pure, Result.andThen, invoke, he]

theorem Runs.makeK {t e : TypeId} {x y : Operand} {k k' : IntKind} {z : Value} {bytes m sz : Nat} (hx : ev l x = some (.int k (m : Int))) (hy : ev l y = some (.int k' (m : Int))) (ht : P.underlying t = some (.slice e))
    (hi : infoB P e = some (some z, sz, bytes)) (hb : bytes * m ≤ 281474976710656) (h63 : m ≤ 9223372036854775807) :
    Runs P n l (.makeSlice t x y) ty w (.slice (some ⟨w.heap.size, 0, none⟩) m m) (w.alloc (.cells (madeCells z.cells (m * sz)) e)) := by
  refine ⟨fun c d p af g ha => ?_⟩
  obtain ⟨i, hi, hz0, hs, hbt⟩ := info_of hi
  have hb' : (i.bytes : Int) * (m : Int) ≤ 281474976710656 := by
    rw [hbt]
    have : ((bytes * m : Nat) : Int) ≤ 281474976710656 := by omega
    rwa [Int.natCast_mul] at this
  have h1 := run_make (P := P) w t e i z ht hi hz0 k k' (m : Int) (m : Int) (by omega) (Int.le_refl _) hb' (by omega)
  simp only [execOp, ha.ev hx, ha.ev hy, Sem.run_bind, h1, Result.andThen, Int.toNat_natCast, hs]; rfl

theorem RunsS.storeMid {t : TypeId} {x y : Operand} {b o : Nat} {cs : Array Value} (hx : ev l x = some (.pointer (some ⟨b, o, none⟩))) (hy : ev l y = some (.agg cs)) (h1 : cs.all (·.oneCell') = true) (hs : sizeB P t = some cs.size)
    (ht : w.there b o cs.size) : RunsS P n l (.store t x y) ty w (w.setCells b o cs.toList) := by
  refine ⟨fun c d p af g ha => ?_⟩
  have h := run_storeVar_mid (P := P) w b o t cs ht hs h1
  simp only [execOp, ha.ev hx, ha.ev hy, Instr.storeAt, Instr.sureAddr, Sem.run_bind, Sem.run_pure, Result.andThen, h]

theorem Runs.neqSN {t t' e : TypeId} {x : Operand} {a : Option Addr} {m c : Nat} {r : Bool} (hx : ev l x = some (.slice a m c)) (ht : P.underlying t = some (.slice e)) (hr : (!a.isNone) = r) :
    Runs P n l (.binOp .neq t x (.const (.slice none 0 0)) t') ty w (.bool r) w := by
  refine ⟨fun c d p af g ha => ?_⟩
  subst hr
  simp only [execOp, ha.ev hx, eval_const, Sem.run_bind, run_eqGuard_slice, Result.andThen, run_neq_slice_nil w t e a _ _ ht]; rfl

/-- A pointer against itself. -/
theorem Runs.neqPP {t t' : TypeId} {x y : Operand} {a : Option Addr} (hx : ev l x = some (.pointer a)) (hy : ev l y = some (.pointer a)) (ht : P.underlying t = some (.pointer (P.pointee t))) (hte : (P.info? (P.pointee t)).isSome = true) :
    Runs P n l (.binOp .neq t x y t') ty w (.bool false) w := by
  refine ⟨fun c d p af g ha => ?_⟩
  obtain ⟨j, hj⟩ := Option.isSome_iff_exists.1 hte
  have h : (binOp .neq t (.pointer a) (.pointer a)).run P w = .ok (.bool false) w := by
    cases a with
    | none => exact run_neq_pointer_nil w t none ht
    | some a => exact Lib.run_neq_ptr_same (w := w) a ht hj
  simp only [execOp, ha.ev hx, ha.ev hy, Sem.run_bind, run_eqGuard_ptr, Result.andThen, h]; rfl

theorem Runs.mkFunc {f : FuncId} {caps : List Operand} {vs : List Value} (hv : evs l caps = some vs) : Runs P n l (.makeFunc (.func f) #[] caps.toArray) ty w (.func (.func f) #[] vs.toArray) w := by
  refine ⟨fun c d p af g ha => ?_⟩
  have h1 : caps.toArray.map c.eval = vs.toArray := by rw [List.map_toArray, ha.evs hv]
  simp [execOp, h1, Instr.makeFunc]

/-- '[]T{x}', T of several cells. -/
theorem Runs.sliceK {t e : TypeId} {x : Operand} {cs : Array Value} {z : Value} {bytes sz : Nat} (hx : ev l x = some (.agg cs)) (ht : P.underlying t = some (.slice e)) (hi : infoB P e = some (some z, sz, bytes)) (hsz : 0 < sz) (hs : sz ≤ 1000)
    (hf : Instr.fill (fun i => some (i * sz, sz)) ((Array.range (1 * sz)).map (z.cells[· % z.cells.size]!)) [(0, .agg cs)] = some cs) :
    Runs P n l (.buildSlice t 1 #[(0, x)]) ty w (.slice (some ⟨w.heap.size, 0, none⟩) 1 1) (w.alloc (.cells cs e)) := by
  refine ⟨fun c d p af g ha => ?_⟩
  obtain ⟨i, hi', hz0, hs0, hbt⟩ := info_of hi
  subst hs0
  have h := run_buildSlice (P := P) w t e 1 #[(0, .agg cs)] cs i z ht hi' hz0 (by omega) (by omega) hf
  simp only [execOp, List.map_toArray, List.map_cons, List.map_nil, ha.ev hx, Sem.run_bind, h, Result.andThen]; rfl

/-- Two structs. -/
theorem Runs.neqA {t t' : TypeId} {x y : Operand} {xs ys : Array Value} {b r : Bool} (hx : ev l x = some (.agg xs)) (hy : ev l y = some (.agg ys)) (hm : P.eqGuardType P.depth t = false) (ht : P.underlying t = some (.struct (P.fieldsOf t))) (hp : P.stoodInHeld t = false)
    (h : (Op.eqFields 9999 xs ys (P.fieldsOf t).toList).run P w = .ok b w) (hr : (!b) = r) : Runs P n l (.binOp .neq t x y t') ty w (.bool r) w := by
  refine ⟨fun c d p af g ha => ?_⟩
  subst hr
  simp only [execOp, ha.ev hx, ha.ev hy, Sem.run_bind, run_eqGuard_agg w .neq t x y xs ys hm, Result.andThen, run_neq_struct, run_equalIn_agg w 9999 t xs ys ht hp, h]; rfl
end

/-- 'copy' where an element has several cells. -/
theorem run_copy_k {P : Program} (w : World) (dT sT ty elem : TypeId) (g o dLen dCap : Nat) (a : Addr) (sLen sCap sz : Nat) (cur : Array Value) (t : TypeId) (cs : List Value)
    (hu : P.underlying dT = some (.slice elem)) (hs : sizeB P elem = some sz) (hg : w.heap[g]? = some (.cells cur t (0, 0))) (hn : cs.length = Nat.min sLen dLen * sz)
    (hsrc : ∀ j v, cs[j]? = some v → w.cell? (a.add j) = some v) (hfit : o + cs.length ≤ cur.size) (h1 : ∀ v ∈ cs, v.oneCell' = true) :
    (Builtin.copy_ #[dT, sT] ty #[.slice (some ⟨g, o, none⟩) dLen dCap, .slice (some a) sLen sCap]).run P w =
      .ok (goInt (Nat.min sLen dLen)) (w.setRow g (cur.toList.take o ++ cs ++ cur.toList.drop (o + cs.length)).toArray) := by
  have hl := run_loadCells_list (P := P) w a cs hsrc
  have hst := run_storeCells_at P g o t cs 0 cur w hg (by simpa using hfit) h1
  unfold sizeB at hs
  cases hq : P.info? elem with
  | none => simp [hq] at hs
  | some i =>
    have hi : i.size = sz := by simpa [hq] using hs
    simp [Builtin.copy_, run_underlying hu, Builtin.lenOf, Builtin.firstCells, sizeOf, typeInfo, hq, hi, ← hn, hl, hst]

/-- n zero records. -/
theorem made_flat (m : Nat) : madeCells #[.int .i64 0, .int .u64 0, .int .i64 0, .pointer none, .pointer none] (m * 5) = (flat (List.replicate m zeroRc)).toArray := by
  apply Array.ext'
  apply List.ext_getElem?
  intro j
  by_cases hj : j < m * 5
  · have e : (List.replicate m zeroRc)[j / 5]? = some zeroRc := by rw [List.getElem?_replicate, if_pos (by omega)]
    have hk : j % 5 < 5 := Nat.mod_lt _ (by decide)
    have key : ∃ v, (enc zeroRc)[j % 5]? = some v ∧ (#[Value.int .i64 0, .int .u64 0, .int .i64 0, .pointer none, .pointer none] : Array Value)[j % 5]! = v := by
      generalize j % 5 = k at hk
      match k, hk with
      | 0, _ => exact ⟨_, rfl, rfl⟩
      | 1, _ => exact ⟨_, rfl, rfl⟩
      | 2, _ => exact ⟨_, rfl, rfl⟩
      | 3, _ => exact ⟨_, rfl, rfl⟩
      | 4, _ => exact ⟨_, rfl, rfl⟩
    obtain ⟨v, h1, h2⟩ := key
    have h3 := flat_get e h1
    rw [show j / 5 * 5 + j % 5 = j from by omega] at h3
    show (madeCells _ _).toList[j]? = (flat _)[j]?
    rw [h3, ← h2]
    simp [madeCells, hj]
  · have h1 : (madeCells #[Value.int .i64 0, .int .u64 0, .int .i64 0, .pointer none, .pointer none] (m * 5)).toList.length ≤ j := by simp [madeCells]; omega
    have h2 : (flat (List.replicate m zeroRc)).length ≤ j := by rw [flat_len]; simp; omega
    show (madeCells _ _).toList[j]? = (flat _)[j]?
    rw [List.getElem?_eq_none h1, List.getElem?_eq_none h2]
theorem Rw.made (w : World) (m : Nat) : Rw (w.alloc (.cells (madeCells (Value.agg #[.int .i64 0, .int .u64 0, .int .i64 0, .pointer none, .pointer none]).cells (m * 5)) 36)) w.heap.size (List.replicate m zeroRc) := by
  refine ⟨[], ?_⟩
  rw [List.append_nil, ← made_flat]
  exact heap_new _ _

/-- 'copy' of m records into a row just made. -/
theorem copy_recs (w : World) (b : Nat) (l : List Rc) (hb : Rw w b l) :
    ∃ w2, (Builtin.copy_ #[27, 27] 3 #[.slice (some ⟨w.heap.size, 0, none⟩) l.length l.length, .slice (some ⟨b, 0, none⟩) l.length l.length]).run Yba.prog
        (w.alloc (.cells (madeCells (Value.agg #[.int .i64 0, .int .u64 0, .int .i64 0, .pointer none, .pointer none]).cells (l.length * 5)) 36)) = .ok (.int .i64 (l.length : Int)) w2 ∧
      Rw w2 w.heap.size l ∧ Below w.heap.size w w2 := by
  obtain ⟨t, hh⟩ := (hb.alloc (.cells (madeCells (Value.agg #[.int .i64 0, .int .u64 0, .int .i64 0, .pointer none, .pointer none]).cells (l.length * 5)) 36)).ex
  have hcp := run_copy_k (P := Yba.prog) _ 27 27 3 36 w.heap.size 0 l.length l.length ⟨b, 0, none⟩ l.length l.length 5 _ 36 (flat l) Yba.underlying27 sz36 (heap_new w _) (by rw [flat_len]; congr 1; exact (Nat.min_self _).symm)
    (fun j v hj => by
      rw [add_mk, cell_of hh, Nat.zero_add, List.getElem?_toArray, List.getElem?_append_left (List.getElem?_eq_some_iff.1 hj).1]
      exact hj) (by rw [flat_len, size_madeCells]; omega) (flat_one l)
  refine ⟨_, hcp.trans (by rw [show Nat.min l.length l.length = l.length from Nat.min_self _]; rfl), ⟨[], ?_⟩, ?_⟩
  · have e : ∀ (cur : Array Value) (xs : List Value), cur.size = xs.length → (cur.toList.take 0 ++ xs ++ cur.toList.drop (0 + xs.length)).toArray = (xs ++ []).toArray := fun cur xs h => by
      rw [List.take_zero, List.nil_append, List.drop_eq_nil_of_le (by rw [Array.length_toList]; omega)]
    rw [setRow_heap _ _ _ _ _ _ (heap_new w _), e _ _ (by rw [size_madeCells, flat_len])]
  · exact (below_new w _ (Nat.le_refl _)).trans ⟨rfl, rfl, rfl, by simp [World.setRow], fun k hk => by
      simp only [World.setRow, Array.getElem?_modify]
      rw [if_neg (by omega)]⟩
end Go.Proofs.Ybulkgfau
