/- Laws of operations that the frame logic lacked; maps, methods, type assertions. -/
import Derived.Test.YbulkgfdmFacts
import Derived.Laws.StructEq
import Derived.Lib.Builder
import Derived.Laws.Cover3
import Derived.Deep.Upon
import Derived.Deep.MidRow
import Derived.Laws.Externs
import Derived.Laws.AppendOwn
import Derived.Great.BuildSlice
import Derived.WalkSpells
namespace Go.Proofs.Ybulkgfdm
open Go Go.Fr Go.RowKit

theorem below_set (w : World) {a : Addr} (v : Value) {B : Nat} (h : B ≤ a.block) : Below B w (w.setCell a v) := (Below.refl _ _).setCell h v
theorem below_new (w : World) (o : Obj) {B : Nat} (h : B ≤ w.heap.size) : Below B w (w.alloc o) := (Below.refl _ _).alloc h o
theorem below_drawn (B : Nat) (w : World) (k : Nat) : Below B w { w with drawn := k } := ⟨rfl, rfl, rfl, Nat.le_refl _, fun _ _ => rfl⟩
theorem Below.up {w w' w'' : World} (h : Below w.heap.size w w') (h' : Below w'.heap.size w' w'') : Below w.heap.size w w'' := h.trans (h'.mono h.size)
theorem wI {x r : Int} (e : x = r) (h0 : -9223372036854775808 ≤ r) (h1 : r ≤ 9223372036854775807) : IntKind.i64.wrap x = r := by subst e; exact wrap64_id h0 h1
theorem wU {x : Int} (h0 : 0 ≤ x) (h1 : x ≤ 18446744073709551615) : IntKind.u64.wrap x = x := by rw [IntKind.wrap_u64]; omega
theorem declt {a b : Nat} (h : a < b) : decide ((a : Int) < (b : Int)) = true := by rw [decide_eq_true_eq]; omega
theorem decge {a b : Nat} (h : ¬ a < b) : decide ((a : Int) < (b : Int)) = false := by rw [decide_eq_false_iff_not]; omega
theorem dtrue {p : Prop} [Decidable p] (h : p) : decide p = true := decide_eq_true h
theorem dfalse {p : Prop} [Decidable p] (h : ¬ p) : decide p = false := decide_eq_false h

/-! ### Laws of operations -/
section
variable {P : Program} {n : Nat} {l : List (Nat × Value)} {w w' : World} {ty : TypeId}
/-- A function without a Go body is called. -/
theorem Runs.callX {f : FuncId} {x : Operand} {first cap : Array Value} {args : List Operand} {ts : Array TypeId} {vs : List Value} {v : Value} (hx : ev l x = some (.func (.func f) first cap)) (hv : evs l args = some vs)
    (he : (callFunc f (first ++ vs.toArray ++ cap)).run P w = .ok (.value v) w') : Runs P n l (.call ⟨.value x, args.toArray, ts⟩) ty w v w' := by
  refine ⟨fun c d p af g ha => ?_⟩
  have h1 : args.toArray.map c.eval = vs.toArray := by rw [List.map_toArray, ha.evs hv]
  simp only [execOp, resolve, h1, ha.ev hx, Deferred.ofValue, Sem.run_bind, Sem.run_pure, Result.andThen, invoke, he]

theorem Runs.makeK {t e : TypeId} {x y : Operand} {k k' : IntKind} {z : Value} {bytes m sz : Nat} (hx : ev l x = some (.int k (m : Int))) (hy : ev l y = some (.int k' (m : Int))) (ht : P.underlying t = some (.slice e))
    (hi : infoB P e = some (some z, sz, bytes)) (hb : bytes * m ≤ 281474976710656) (h63 : m ≤ 9223372036854775807) :
    Runs P n l (.makeSlice t x y) ty w (.slice (some ⟨w.heap.size, 0, none⟩) m m) (w.alloc (.cells (madeCells z.cells (m * sz)) e)) := by
  refine ⟨fun c d p af g ha => ?_⟩
  obtain ⟨i, hi, hz0, hs, hbt⟩ := info_of hi
  have hb' : (i.bytes : Int) * (m : Int) ≤ 281474976710656 := by
    rw [hbt]
    have : ((bytes * m : Nat) : Int) ≤ 281474976710656 := by omega
    rwa [Int.natCast_mul] at this
  have h1 := run_make (P := P) w t e i z ht hi hz0 k k' (m : Int) (m : Int) (by omega) (Int.le_refl _) hb' (by omega)
  simp only [execOp, ha.ev hx, ha.ev hy, Sem.run_bind, h1, Result.andThen, Int.toNat_natCast, hs]; rfl

theorem RunsS.storeMid {t : TypeId} {x y : Operand} {b o : Nat} {cs : Array Value} (hx : ev l x = some (.pointer (some ⟨b, o, none⟩))) (hy : ev l y = some (.agg cs)) (h1 : cs.all (·.oneCell') = true) (hs : sizeB P t = some cs.size)
    (ht : w.there b o cs.size) : RunsS P n l (.store t x y) ty w (w.setCells b o cs.toList) := by
  refine ⟨fun c d p af g ha => ?_⟩
  have h := run_storeVar_mid (P := P) w b o t cs ht hs h1
  simp only [execOp, ha.ev hx, ha.ev hy, Instr.storeAt, Instr.sureAddr, Sem.run_bind, Sem.run_pure, Result.andThen, h]

theorem Runs.neqSN {t t' e : TypeId} {x : Operand} {a : Option Addr} {m c : Nat} {r : Bool} (hx : ev l x = some (.slice a m c)) (ht : P.underlying t = some (.slice e)) (hr : (!a.isNone) = r) :
    Runs P n l (.binOp .neq t x (.const (.slice none 0 0)) t') ty w (.bool r) w := by
  refine ⟨fun c d p af g ha => ?_⟩
  subst hr
  simp only [execOp, ha.ev hx, eval_const, Sem.run_bind, run_eqGuard_slice, Result.andThen, run_neq_slice_nil w t e a _ _ ht]; rfl

/-- A pointer against itself. -/
theorem Runs.neqPP {t t' : TypeId} {x y : Operand} {a : Option Addr} (hx : ev l x = some (.pointer a)) (hy : ev l y = some (.pointer a)) (ht : P.underlying t = some (.pointer (P.pointee t))) (hte : (P.info? (P.pointee t)).isSome = true) :
    Runs P n l (.binOp .neq t x y t') ty w (.bool false) w := by
  refine ⟨fun c d p af g ha => ?_⟩
  obtain ⟨j, hj⟩ := Option.isSome_iff_exists.1 hte
  have h : (binOp .neq t (.pointer a) (.pointer a)).run P w = .ok (.bool false) w := by
    cases a with
    | none => exact run_neq_pointer_nil w t none ht
    | some a => exact Lib.run_neq_ptr_same (w := w) a ht hj
  simp only [execOp, ha.ev hx, ha.ev hy, Sem.run_bind, run_eqGuard_ptr, Result.andThen, h]; rfl

theorem Runs.mkFunc {f : FuncId} {caps : List Operand} {vs : List Value} (hv : evs l caps = some vs) : Runs P n l (.makeFunc (.func f) #[] caps.toArray) ty w (.func (.func f) #[] vs.toArray) w := by
  refine ⟨fun c d p af g ha => ?_⟩
  have h1 : caps.toArray.map c.eval = vs.toArray := by rw [List.map_toArray, ha.evs hv]
  simp [execOp, h1, Instr.makeFunc]

/-- '[]T{x}', T of several cells. -/
theorem Runs.sliceK {t e : TypeId} {x : Operand} {cs : Array Value} {z : Value} {bytes sz : Nat} (hx : ev l x = some (.agg cs)) (ht : P.underlying t = some (.slice e)) (hi : infoB P e = some (some z, sz, bytes)) (hsz : 0 < sz) (hs : sz ≤ 1000)
    (hf : Instr.fill (fun i => some (i * sz, sz)) ((Array.range (1 * sz)).map (z.cells[· % z.cells.size]!)) [(0, .agg cs)] = some cs) :
    Runs P n l (.buildSlice t 1 #[(0, x)]) ty w (.slice (some ⟨w.heap.size, 0, none⟩) 1 1) (w.alloc (.cells cs e)) := by
  refine ⟨fun c d p af g ha => ?_⟩
  obtain ⟨i, hi', hz0, hs0, hbt⟩ := info_of hi
  subst hs0
  have h := run_buildSlice (P := P) w t e 1 #[(0, .agg cs)] cs i z ht hi' hz0 (by omega) (by omega) hf
  simp only [execOp, List.map_toArray, List.map_cons, List.map_nil, ha.ev hx, Sem.run_bind, h, Result.andThen]; rfl

/-- Two structs. -/
theorem Runs.neqA {t t' : TypeId} {x y : Operand} {xs ys : Array Value} {b r : Bool} (hx : ev l x = some (.agg xs)) (hy : ev l y = some (.agg ys)) (hm : P.eqGuardType P.depth t = false) (ht : P.underlying t = some (.struct (P.fieldsOf t))) (hp : P.stoodInHeld t = false)
    (h : (Op.eqFields 9999 xs ys (P.fieldsOf t).toList).run P w = .ok b w) (hr : (!b) = r) : Runs P n l (.binOp .neq t x y t') ty w (.bool r) w := by
  refine ⟨fun c d p af g ha => ?_⟩
  subst hr
  simp only [execOp, ha.ev hx, ha.ev hy, Sem.run_bind, run_eqGuard_agg w .neq t x y xs ys hm, Result.andThen, run_neq_struct, run_equalIn_agg w 9999 t xs ys ht hp, h]; rfl
theorem Runs.idxArr {t e : TypeId} {x i : Operand} {k : IntKind} {b o len m sz : Nat} {j : Int} (hx : ev l x = some (.pointer (some ⟨b, o, none⟩))) (hi : ev l i = some (.int k j))
    (ht : P.underlying t = some (.array len e)) (hs : sizeB P e = some sz) (hj : j = (m : Int)) (hm : m < len) :
    Runs P n l (.indexAddr t x i) ty w (.pointer (some ⟨b, o + m * sz, none⟩)) w := by
  refine ⟨fun c d p af g ha => ?_⟩
  subst hj
  have h1 : (0 : Int) ≤ (m : Int) ∧ (m : Int) < (len : Int) := by omega
  simp only [execOp, ha.ev hx, ha.ev hi, Instr.indexAt, asIntOf, Instr.sureAddr, Sem.run_bind, Sem.run_pure, Result.andThen, run_underlying ht]
  rw [if_pos h1]
  simp only [Sem.run_bind, Fr.run_sizeOf hs, Result.andThen, Sem.run_pure, Int.toNat_natCast, add_mk]

/-- A method of an interface value is called. -/
theorem RunsC.method {f : FuncId} {x : Operand} {T : TypeId} {rv rc : Value} {name : String} {args : List Operand} {ts : Array TypeId} {vs : List Value} (hx : ev l x = some (.iface T rv)) (hv : evs l args = some vs)
    (hm : (method (P.types.size + Made.depth) T rv name).run P w = .ok (f, rc) w) (he : Proofs.Enters P f) : RunsC P n l (.call ⟨.invoke x name, args.toArray, ts⟩) ty w f (#[rc] ++ vs.toArray) := by
  refine ⟨fun c d p af g ha => ?_⟩
  have h1 : args.toArray.map c.eval = vs.toArray := by rw [List.map_toArray, ha.evs hv]
  have h3 := he (#[rc] ++ vs.toArray) w
  have h4 : (#[Value.iface T rv] ++ vs.toArray)[0]? = some (.iface T rv) := by simp
  have h5 : (#[Value.iface T rv] ++ vs.toArray).extract 1 (#[Value.iface T rv] ++ vs.toArray).size = vs.toArray := by
    apply Array.ext'
    simp
  simp only [execOp, resolve, h1, ha.ev hx, Sem.run_bind, Sem.run_pure, Result.andThen, invoke, h4, h5, callMethod, run_program, hm, h3]
theorem Runs.assert {x : Operand} {t u : TypeId} {v : Value} (hx : ev l x = some (.iface u v)) (hu : (P.underlying u).isSome = true) (hn : ∀ ms, P.underlying u ≠ some (.interface ms)) : Runs P n l (.typeAssert x t u false) ty w v w := by
  refine ⟨fun c d p af g ha => ?_⟩
  obtain ⟨q, hq⟩ := Option.isSome_iff_exists.1 hu
  simp only [execOp, ha.ev hx, Instr.typeAssert, Sem.run_bind, run_underlying hq, Result.andThen]
  cases q <;> first | (exact absurd hq (hn _)) | simp

end

/-- 'copy' where an element has several cells. -/
theorem run_copy_k {P : Program} (w : World) (dT sT ty elem : TypeId) (g o dLen dCap : Nat) (a : Addr) (sLen sCap sz : Nat) (cur : Array Value) (t : TypeId) (cs : List Value)
    (hu : P.underlying dT = some (.slice elem)) (hs : sizeB P elem = some sz) (hg : w.heap[g]? = some (.cells cur t (0, 0))) (hn : cs.length = Nat.min sLen dLen * sz)
    (hsrc : ∀ j v, cs[j]? = some v → w.cell? (a.add j) = some v) (hfit : o + cs.length ≤ cur.size) (h1 : ∀ v ∈ cs, v.oneCell' = true) :
    (Builtin.copy_ #[dT, sT] ty #[.slice (some ⟨g, o, none⟩) dLen dCap, .slice (some a) sLen sCap]).run P w =
      .ok (goInt (Nat.min sLen dLen)) (w.setRow g (cur.toList.take o ++ cs ++ cur.toList.drop (o + cs.length)).toArray) := by
  have hl := run_loadCells_list (P := P) w a cs hsrc
  have hst := run_storeCells_at P g o t cs 0 cur w hg (by simpa using hfit) h1
  unfold sizeB at hs
  cases hq : P.info? elem with
  | none => simp [hq] at hs
  | some i =>
    have hi : i.size = sz := by simpa [hq] using hs
    simp [Builtin.copy_, run_underlying hu, Builtin.lenOf, Builtin.firstCells, sizeOf, typeInfo, hq, hi, ← hn, hl, hst]
end Go.Proofs.Ybulkgfdm
