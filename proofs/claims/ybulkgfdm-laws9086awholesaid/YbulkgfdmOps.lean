/-
  THE OPERATIONS' LAWS for the frame logic ('Runs', 'RunsS', 'RunsC'), and small laws on blocks. No program is named here.
-/
import Derived.Test.YbulkgfdmFr
import Derived.Shelf.Abstract
namespace Go.Fr
open Go Go.RowKit

/-- Is the type a struct or an array? -/
def aggB (P : Program) (t : TypeId) : Option Bool := (P.underlying t).map fun | .struct _ => true | .array _ _ => true | _ => false

theorem run_isAgg {P : Program} {t : TypeId} {b : Bool} (h : aggB P t = some b) (w : World) : (isAgg t).run P w = .ok b w := by
  unfold aggB at h
  cases hu : P.underlying t with
  | none => rw [hu] at h; cases h
  | some d =>
    rw [hu] at h
    simp only [Option.map_some, Option.some.injEq] at h
    unfold isAgg
    simp only [Sem.run_bind, run_underlying hu, Result.andThen]
    cases d <;> simp_all

def sizeB (P : Program) (t : TypeId) : Option Nat := (P.info? t).map (·.size)
theorem run_sizeOf {P : Program} {t : TypeId} {k : Nat} (h : sizeB P t = some k) (w : World) : (sizeOf t).run P w = .ok k w := by
  unfold sizeB at h
  cases hi : P.info? t with
  | none => rw [hi] at h; cases h
  | some i =>
    rw [hi] at h
    simp only [Option.map_some, Option.some.injEq] at h
    simp [sizeOf, typeInfo, hi, h]

/-- The zero value, the cells, the bytes of a type. -/
def infoB (P : Program) (t : TypeId) : Option (Option Value × Nat × Nat) := (P.info? t).map fun i => (i.zero, i.size, i.bytes)
theorem info_of {P : Program} {t : TypeId} {z : Value} {s b : Nat} (h : infoB P t = some (some z, s, b)) : ∃ i, P.info? t = some i ∧ i.zero = some z ∧ i.size = s ∧ i.bytes = b := by
  unfold infoB at h
  cases hi : P.info? t with
  | none => rw [hi] at h; cases h
  | some i =>
    rw [hi] at h
    simp only [Option.map_some, Option.some.injEq, Prod.mk.injEq] at h
    exact ⟨i, rfl, h.1, h.2.1, h.2.2⟩
theorem sizeB_of {P : Program} {t : TypeId} {z : Value} {s b : Nat} (h : infoB P t = some (some z, s, b)) : sizeB P t = some s := by
  obtain ⟨i, hi, _, hs, _⟩ := info_of h
  simp [sizeB, hi, hs]

/-- A slice type (a name of its own, so that another number's fact is refused at once). -/
structure IsSlice (P : Program) (t : TypeId) : Prop where
  sl : ∃ e, P.underlying t = some (.slice e)

/-! ### Blocks -/
theorem add_mk (b o m : Nat) : (Addr.mk b o none).add m = ⟨b, o + m, none⟩ := by
  unfold Addr.add; split <;> simp_all

theorem cell_of {w : World} {b o : Nat} {c : Array Value} {t : TypeId} {f : Nat × Nat} (h : w.heap[b]? = some (.cells c t f)) : w.cell? ⟨b, o, none⟩ = c[o]? := by
  simp [World.cell?, h]
theorem frozen_of {w : World} {b o : Nat} {c : Array Value} {t : TypeId} (h : w.heap[b]? = some (.cells c t (0, 0))) : w.frozen? ⟨b, o, none⟩ = false := by
  simp [World.frozen?, h]
theorem heap_new (w : World) (o : Obj) : (w.alloc o).heap[w.heap.size]? = some o := by
  show (w.heap.push o)[w.heap.size]? = _
  simp
theorem heap_old {w : World} {o : Obj} {k : Nat} {x : Obj} (h : w.heap[k]? = some x) : (w.alloc o).heap[k]? = some x := by
  have hk : k < w.heap.size := (Array.getElem?_eq_some_iff.1 h).1
  rw [Below.heap_alloc _ _ _ hk, h]
theorem size_new (w : World) (o : Obj) : (w.alloc o).heap.size = w.heap.size + 1 := by
  show (w.heap.push o).size = _
  simp
theorem heap_set {w : World} {b o : Nat} {v : Value} {c : Array Value} {t : TypeId} {f : Nat × Nat} (h : w.heap[b]? = some (.cells c t f)) :
    (w.setCell ⟨b, o, none⟩ v).heap[b]? = some (.cells (c.setIfInBounds o v) t f) := by
  simp only [World.setCell, Array.getElem?_modify, h]
  simp
theorem heap_set_other {w : World} {a : Addr} {v : Value} {k : Nat} {x : Obj} (h : w.heap[k]? = some x) (hk : k ≠ a.block) : (w.setCell a v).heap[k]? = some x := by
  rw [Below.heap_setCell _ _ _ _ hk, h]
theorem size_set (w : World) (a : Addr) (v : Value) : (w.setCell a v).heap.size = w.heap.size := by simp [World.setCell]
theorem lt_of_heap {w : World} {b : Nat} {x : Obj} (h : w.heap[b]? = some x) : b < w.heap.size := (Array.getElem?_eq_some_iff.1 h).1
theorem below_heap {B : Nat} {w w' : World} (h : Below B w w') {k : Nat} (hk : k < B) {x : Obj} (hx : w.heap[k]? = some x) : w'.heap[k]? = some x := (h.block k hk).trans hx

theorem eval_const (a : Act) (v : Value) : a.eval (.const v) = v := rfl

section
variable {P : Program} {n : Nat} {l : List (Nat × Value)} {w : World} {ty : TypeId}

theorem Runs.move {x : Operand} {v : Value} (hx : ev l x = some v) : Runs P n l (.move x) ty w v w := by
  refine ⟨fun a d p af g ha => ?_⟩
  simp only [execOp, ha.ev hx]; rfl
theorem Runs.assign {x : Operand} {v : Value} (hx : ev l x = some v) : Runs P n l (.assign x) ty w v w := by
  refine ⟨fun a d p af g ha => ?_⟩
  simp only [execOp, ha.ev hx]; rfl
theorem Runs.pickT {c x y : Operand} {v : Value} (hc : ev l c = some (.bool true)) (hx : ev l x = some v) : Runs P n l (.pick c x y) ty w v w := by
  refine ⟨fun a d p af g ha => ?_⟩
  simp only [execOp, ha.ev hc, ha.ev hx]; rfl
theorem Runs.pickF {c x y : Operand} {v : Value} (hc : ev l c = some (.bool false)) (hy : ev l y = some v) : Runs P n l (.pick c x y) ty w v w := by
  refine ⟨fun a d p af g ha => ?_⟩
  simp only [execOp, ha.ev hc, ha.ev hy]; rfl

theorem run_eqGuard_int (op : BinOp) (t : TypeId) (x y : Operand) (k k' : IntKind) (a b : Int) (P : Program) (w : World) : (eqGuard op t x y (.int k a) (.int k' b)).run P w = .ok () w := by
  cases op <;> rfl
theorem run_eqGuard_str (op : BinOp) (t : TypeId) (x y : Operand) (a b : ByteArray) (P : Program) (w : World) : (eqGuard op t x y (.string a) (.string b)).run P w = .ok () w := by
  cases op <;> rfl
theorem run_eqGuard_bool (op : BinOp) (t : TypeId) (x y : Operand) (a b : Bool) (P : Program) (w : World) : (eqGuard op t x y (.bool a) (.bool b)).run P w = .ok () w := by
  cases op <;> rfl
theorem run_eqGuard_ptr (op : BinOp) (t : TypeId) (x y : Operand) (a b : Option Addr) (P : Program) (w : World) : (eqGuard op t x y (.pointer a) (.pointer b)).run P w = .ok () w := by
  cases op <;> rfl
theorem run_eqGuard_slice (op : BinOp) (t : TypeId) (x y : Operand) (a b : Option Addr) (m m' c c' : Nat) (P : Program) (w : World) : (eqGuard op t x y (.slice a m c) (.slice b m' c')).run P w = .ok () w := by
  cases op <;> rfl

/-- Whatever binary operation on two integers. -/
theorem Runs.bin {op : BinOp} {t t' : TypeId} {x y : Operand} {k k' : IntKind} {a b : Int} {v : Value} (hx : ev l x = some (.int k a)) (hy : ev l y = some (.int k' b))
    (h : (binOp op t (.int k a) (.int k' b)).run P w = .ok v w) : Runs P n l (.binOp op t x y t') ty w v w := by
  refine ⟨fun c d p af g ha => ?_⟩
  simp only [execOp, ha.ev hx, ha.ev hy, Sem.run_bind, run_eqGuard_int, Result.andThen, h]; rfl
theorem Runs.add {t t' : TypeId} {x y : Operand} {k : IntKind} {a b r : Int} (hx : ev l x = some (.int k a)) (hy : ev l y = some (.int k b)) (hr : k.wrap (a + b) = r) :
    Runs P n l (.binOp .add t x y t') ty w (.int k r) w := Runs.bin hx hy (by subst hr; simp only [binOp, ne_eq, not_true_eq_false, if_false]; rfl)
theorem Runs.sub {t t' : TypeId} {x y : Operand} {k : IntKind} {a b r : Int} (hx : ev l x = some (.int k a)) (hy : ev l y = some (.int k b)) (hr : k.wrap (a - b) = r) :
    Runs P n l (.binOp .sub t x y t') ty w (.int k r) w := Runs.bin hx hy (by subst hr; simp only [binOp, ne_eq, not_true_eq_false, if_false]; rfl)
theorem Runs.mul {t t' : TypeId} {x y : Operand} {k : IntKind} {a b r : Int} (hx : ev l x = some (.int k a)) (hy : ev l y = some (.int k b)) (hr : k.wrap (a * b) = r) :
    Runs P n l (.binOp .mul t x y t') ty w (.int k r) w := Runs.bin hx hy (by subst hr; simp only [binOp, ne_eq, not_true_eq_false, if_false]; rfl)
theorem Runs.quo {t t' : TypeId} {x y : Operand} {k : IntKind} {a b r : Int} (hx : ev l x = some (.int k a)) (hy : ev l y = some (.int k b)) (h0 : b ≠ 0) (hr : k.wrap (a.tdiv b) = r) :
    Runs P n l (.binOp .quo t x y t') ty w (.int k r) w := Runs.bin hx hy (by subst hr; simp only [binOp, ne_eq, not_true_eq_false, if_false, Op.intDiv, h0]; rfl)
theorem Runs.rem {t t' : TypeId} {x y : Operand} {k : IntKind} {a b r : Int} (hx : ev l x = some (.int k a)) (hy : ev l y = some (.int k b)) (h0 : b ≠ 0) (hr : a.tmod b = r) :
    Runs P n l (.binOp .rem t x y t') ty w (.int k r) w := Runs.bin hx hy (by subst hr; simp only [binOp, ne_eq, not_true_eq_false, if_false, Op.intDiv, h0]; rfl)
theorem Runs.shl {t t' : TypeId} {x y : Operand} {k k' : IntKind} {a b r : Int} (hx : ev l x = some (.int k a)) (hy : ev l y = some (.int k' b)) (h0 : ¬ b < 0) (hr : k.wrap (a * 2 ^ (min b.toNat k.bits)) = r) :
    Runs P n l (.binOp .shl t x y t') ty w (.int k r) w := Runs.bin hx hy (by subst hr; simp only [binOp, Op.shift, h0, if_false]; rfl)
theorem Runs.shr {t t' : TypeId} {x y : Operand} {k k' : IntKind} {a b r : Int} (hx : ev l x = some (.int k a)) (hy : ev l y = some (.int k' b)) (h0 : ¬ b < 0) (hr : a.fdiv (2 ^ (min b.toNat k.bits)) = r) :
    Runs P n l (.binOp .shr t x y t') ty w (.int k r) w := Runs.bin hx hy (by subst hr; simp only [binOp, Op.shift, h0, if_false]; rfl)
theorem Runs.and {t t' : TypeId} {x y : Operand} {k : IntKind} {a b r : Int} (hx : ev l x = some (.int k a)) (hy : ev l y = some (.int k b)) (hr : k.wrap ((BitVec.ofInt k.bits a &&& BitVec.ofInt k.bits b).toNat : Int) = r) :
    Runs P n l (.binOp .and t x y t') ty w (.int k r) w := Runs.bin hx hy (by subst hr; simp only [binOp, ne_eq, not_true_eq_false, if_false]; rfl)
theorem Runs.or {t t' : TypeId} {x y : Operand} {k : IntKind} {a b r : Int} (hx : ev l x = some (.int k a)) (hy : ev l y = some (.int k b)) (hr : k.wrap ((BitVec.ofInt k.bits a ||| BitVec.ofInt k.bits b).toNat : Int) = r) :
    Runs P n l (.binOp .or t x y t') ty w (.int k r) w := Runs.bin hx hy (by subst hr; simp only [binOp, ne_eq, not_true_eq_false, if_false]; rfl)
theorem Runs.lss {t t' : TypeId} {x y : Operand} {k : IntKind} {a b : Int} {r : Bool} (hx : ev l x = some (.int k a)) (hy : ev l y = some (.int k b)) (hr : decide (a < b) = r) :
    Runs P n l (.binOp .lss t x y t') ty w (.bool r) w := Runs.bin hx hy (by subst hr; simp only [binOp, ne_eq, not_true_eq_false, if_false]; rfl)
theorem Runs.leq {t t' : TypeId} {x y : Operand} {k : IntKind} {a b : Int} {r : Bool} (hx : ev l x = some (.int k a)) (hy : ev l y = some (.int k b)) (hr : decide (a ≤ b) = r) :
    Runs P n l (.binOp .leq t x y t') ty w (.bool r) w := Runs.bin hx hy (by subst hr; simp only [binOp, ne_eq, not_true_eq_false, if_false]; rfl)
theorem Runs.gtr {t t' : TypeId} {x y : Operand} {k : IntKind} {a b : Int} {r : Bool} (hx : ev l x = some (.int k a)) (hy : ev l y = some (.int k b)) (hr : decide (b < a) = r) :
    Runs P n l (.binOp .gtr t x y t') ty w (.bool r) w := Runs.bin hx hy (by subst hr; simp only [binOp, ne_eq, not_true_eq_false, if_false]; rfl)
theorem Runs.geq {t t' : TypeId} {x y : Operand} {k : IntKind} {a b : Int} {r : Bool} (hx : ev l x = some (.int k a)) (hy : ev l y = some (.int k b)) (hr : decide (b ≤ a) = r) :
    Runs P n l (.binOp .geq t x y t') ty w (.bool r) w := Runs.bin hx hy (by subst hr; simp only [binOp, ne_eq, not_true_eq_false, if_false]; rfl)
theorem Runs.eql {t t' : TypeId} {x y : Operand} {k : IntKind} {a b : Int} {r : Bool} (hx : ev l x = some (.int k a)) (hy : ev l y = some (.int k b)) (hr : decide (a = b) = r) :
    Runs P n l (.binOp .eql t x y t') ty w (.bool r) w := Runs.bin hx hy (by subst hr; simp only [binOp, ne_eq, not_true_eq_false, if_false]; rfl)
theorem Runs.neq {t t' : TypeId} {x y : Operand} {k : IntKind} {a b : Int} {r : Bool} (hx : ev l x = some (.int k a)) (hy : ev l y = some (.int k b)) (hr : (!decide (a = b)) = r) :
    Runs P n l (.binOp .neq t x y t') ty w (.bool r) w := Runs.bin hx hy (by subst hr; simp only [binOp, ne_eq, not_true_eq_false, if_false]; rfl)

/-- Two strings. -/
theorem Runs.binS {op : BinOp} {t t' : TypeId} {x y : Operand} {a b : ByteArray} {v : Value} (hx : ev l x = some (.string a)) (hy : ev l y = some (.string b))
    (h : (binOp op t (.string a) (.string b)).run P w = .ok v w) : Runs P n l (.binOp op t x y t') ty w v w := by
  refine ⟨fun c d p af g ha => ?_⟩
  simp only [execOp, ha.ev hx, ha.ev hy, Sem.run_bind, run_eqGuard_str, Result.andThen, h]; rfl
theorem Runs.addS {t t' : TypeId} {x y : Operand} {a b : ByteArray} (hx : ev l x = some (.string a)) (hy : ev l y = some (.string b)) (h : a.size + b.size ≤ 9223372036854775807) :
    Runs P n l (.binOp .add t x y t') ty w (.string (a ++ b)) w := Runs.binS hx hy (by rw [show binOp .add t (.string a) (.string b) = Op.stringOp .add a b from rfl]; exact run_string_add_sum w a b h)
theorem Runs.eqlS {t t' : TypeId} {x y : Operand} {a b : ByteArray} {r : Bool} (hx : ev l x = some (.string a)) (hy : ev l y = some (.string b)) (hr : (a.toList == b.toList) = r) :
    Runs P n l (.binOp .eql t x y t') ty w (.bool r) w := Runs.binS hx hy (by subst hr; rfl)

/-- Two bools. -/
theorem Runs.eqlB {t t' : TypeId} {x y : Operand} {a b r : Bool} (hx : ev l x = some (.bool a)) (hy : ev l y = some (.bool b)) (ht : P.underlying t = some .bool) (hr : (a == b) = r) :
    Runs P n l (.binOp .eql t x y t') ty w (.bool r) w := by
  refine ⟨fun c d p af g ha => ?_⟩
  subst hr
  simp only [execOp, ha.ev hx, ha.ev hy, Sem.run_bind, run_eqGuard_bool, Result.andThen, run_eql_bool w t a b ht]; rfl
theorem Runs.not {t : TypeId} {x : Operand} {b : Bool} (hx : ev l x = some (.bool b)) : Runs P n l (.unOp .not t x) ty w (.bool (!b)) w := by
  refine ⟨fun a d p af g ha => ?_⟩
  simp only [execOp, ha.ev hx]; rfl

/-- A pointer against nil. -/
theorem Runs.eqlPN {t t' : TypeId} {x : Operand} {a : Option Addr} {r : Bool} (hx : ev l x = some (.pointer a)) (ht : P.underlying t = some (.pointer (P.pointee t))) (hr : a.isNone = r) :
    Runs P n l (.binOp .eql t x (.const (.pointer none)) t') ty w (.bool r) w := by
  refine ⟨fun c d p af g ha => ?_⟩
  subst hr
  simp only [execOp, ha.ev hx, eval_const, Sem.run_bind, run_eqGuard_ptr, Result.andThen, run_eql_pointer_nil w t a ht]; rfl
theorem Runs.neqPN {t t' : TypeId} {x : Operand} {a : Option Addr} {r : Bool} (hx : ev l x = some (.pointer a)) (ht : P.underlying t = some (.pointer (P.pointee t))) (hr : a.isSome = r) :
    Runs P n l (.binOp .neq t x (.const (.pointer none)) t') ty w (.bool r) w := by
  refine ⟨fun c d p af g ha => ?_⟩
  subst hr
  simp only [execOp, ha.ev hx, eval_const, Sem.run_bind, run_eqGuard_ptr, Result.andThen, run_neq_pointer_nil w t a ht]
  cases a <;> rfl

/-- An interface value against nil. -/
theorem Runs.neqIN {t t' u : TypeId} {x : Operand} {v : Value} (hx : ev l x = some (.iface u v)) (ht : P.underlying t = some (.interface (P.methodsAt t))) :
    Runs P n l (.binOp .neq t x (.const .nilIface) t') ty w (.bool true) w := by
  refine ⟨fun c d p af g ha => ?_⟩
  have hq : (eqGuard .neq t x (.const .nilIface) (.iface u v) .nilIface).run P w = .ok () w := rfl
  simp only [execOp, ha.ev hx, eval_const, Sem.run_bind, hq, Result.andThen, run_neq_held_nil w t u v ht]; rfl
theorem Runs.eqlIN {t t' u : TypeId} {x : Operand} {v : Value} (hx : ev l x = some (.iface u v)) (ht : P.underlying t = some (.interface (P.methodsAt t))) :
    Runs P n l (.binOp .eql t x (.const .nilIface) t') ty w (.bool false) w := by
  refine ⟨fun c d p af g ha => ?_⟩
  have hq : (eqGuard .eql t x (.const .nilIface) (.iface u v) .nilIface).run P w = .ok () w := rfl
  simp only [execOp, ha.ev hx, eval_const, Sem.run_bind, hq, Result.andThen, run_eql_held_nil w t u v ht]; rfl
theorem Runs.neqNN {t t' : TypeId} {x : Operand} (hx : ev l x = some .nilIface) (ht : P.underlying t = some (.interface (P.methodsAt t))) :
    Runs P n l (.binOp .neq t x (.const .nilIface) t') ty w (.bool false) w := by
  refine ⟨fun c d p af g ha => ?_⟩
  have hq : (eqGuard .neq t x (.const .nilIface) .nilIface .nilIface).run P w = .ok () w := by cases x <;> rfl
  simp only [execOp, ha.ev hx, eval_const, Sem.run_bind, hq, Result.andThen, run_neq_nil_nil w t ht]; rfl
theorem Runs.eqlNN {t t' : TypeId} {x : Operand} (hx : ev l x = some .nilIface) (ht : P.underlying t = some (.interface (P.methodsAt t))) :
    Runs P n l (.binOp .eql t x (.const .nilIface) t') ty w (.bool true) w := by
  refine ⟨fun c d p af g ha => ?_⟩
  have hq : (eqGuard .eql t x (.const .nilIface) .nilIface .nilIface).run P w = .ok () w := by cases x <;> rfl
  simp only [execOp, ha.ev hx, eval_const, Sem.run_bind, hq, Result.andThen, run_eql_nil_nil w t ht]; rfl

theorem Runs.conv {s t : TypeId} {x : Operand} {k k' : IntKind} {a r : Int} (hx : ev l x = some (.int k' a)) (hs : (P.underlying s).isSome = true) (ht : P.underlying t = some (.int k)) (hr : k.wrap a = r) :
    Runs P n l (.convert s t x) ty w (.int k r) w := by
  refine ⟨fun c d p af g ha => ?_⟩
  subst hr
  cases hu : P.underlying s with
  | none => rw [hu] at hs; cases hs
  | some q => simp only [execOp, ha.ev hx, convert, Sem.run_bind, run_underlying hu, run_underlying ht, Result.andThen]; cases q <;> rfl

theorem Runs.len {t r : TypeId} {x : Operand} {a : Option Addr} {m c : Nat} (hx : ev l x = some (.slice a m c)) (ht : IsSlice P t) :
    Runs P n l (.call ⟨.builtin .len, #[x], #[t]⟩) r w (.int .i64 m) w := by
  refine ⟨fun c' d p af g ha => ?_⟩
  obtain ⟨e, ht⟩ := ht.sl
  simp only [execOp, resolve, invoke, builtin, Builtin.len_, Sem.run_bind, List.map_toArray, List.map_cons, List.map_nil, ha.ev hx]
  simp [run_underlying ht, goInt]
theorem Runs.lenS {t r : TypeId} {x : Operand} {s : ByteArray} (hx : ev l x = some (.string s)) (ht : P.underlying t = some .string) :
    Runs P n l (.call ⟨.builtin .len, #[x], #[t]⟩) r w (.int .i64 s.size) w := by
  refine ⟨fun c' d p af g ha => ?_⟩
  simp only [execOp, resolve, invoke, builtin, Builtin.len_, Sem.run_bind, List.map_toArray, List.map_cons, List.map_nil, ha.ev hx]
  simp [run_underlying ht, goInt]

theorem Runs.extract {x : Operand} {i : Nat} {vs : Array Value} {v : Value} (hx : ev l x = some (.tuple vs)) (hv : vs[i]? = some v) : Runs P n l (.extract x i) ty w v w := by
  refine ⟨fun a d p af g ha => ?_⟩
  simp only [execOp, ha.ev hx, Instr.extract, hv]; rfl

theorem Runs.nilCheck {x : Operand} {a : Addr} (hx : ev l x = some (.pointer (some a))) : Runs P n l (.nilCheck x) ty w (.pointer (some a)) w := by
  refine ⟨fun c d p af g ha => ?_⟩
  simp only [execOp, ha.ev hx]; rfl

/-- An element's address. -/
theorem Runs.idx {t e : TypeId} {x i : Operand} {k : IntKind} {b o len cap m sz : Nat} {j : Int} (hx : ev l x = some (.slice (some ⟨b, o, none⟩) len cap)) (hi : ev l i = some (.int k j))
    (ht : P.underlying t = some (.slice e)) (hs : sizeB P e = some sz) (hj : j = (m : Int)) (hm : m < len) :
    Runs P n l (.indexAddr t x i) ty w (.pointer (some ⟨b, o + m * sz, none⟩)) w := by
  refine ⟨fun c d p af g ha => ?_⟩
  subst hj
  have h1 : (0 : Int) ≤ (m : Int) ∧ (m : Int) < (len : Int) := by omega
  simp only [execOp, ha.ev hx, ha.ev hi, Instr.indexAt, asIntOf, Sem.run_bind, Sem.run_pure, Result.andThen, run_underlying ht]
  rw [if_pos h1]
  simp only [Sem.run_bind, run_sizeOf hs, Result.andThen, Sem.run_pure, Int.toNat_natCast, add_mk]
theorem Runs.idx1 {t e : TypeId} {x i : Operand} {k : IntKind} {b o len cap m : Nat} {j : Int} (hx : ev l x = some (.slice (some ⟨b, o, none⟩) len cap)) (hi : ev l i = some (.int k j))
    (ht : P.underlying t = some (.slice e)) (hs : sizeB P e = some 1) (hj : j = (m : Int)) (hm : m < len) :
    Runs P n l (.indexAddr t x i) ty w (.pointer (some ⟨b, o + m, none⟩)) w := by
  have := Runs.idx (P := P) (n := n) (w := w) (ty := ty) hx hi ht hs hj hm
  rwa [Nat.mul_one] at this

theorem Runs.load {t : TypeId} {x : Operand} {a : Addr} {v : Value} (hx : ev l x = some (.pointer (some a))) (ht : aggB P t = some false) (hc : w.cell? a = some v) : Runs P n l (.load t x) ty w v w := by
  refine ⟨fun c d p af g ha => ?_⟩
  simp only [execOp, ha.ev hx, Instr.loadAt, Instr.sureAddr, loadVar, Sem.run_bind, Sem.run_pure, Result.andThen, run_isAgg ht]
  simp [hc]

/-- A whole struct (or array) is read. -/
theorem Runs.loadAgg {t : TypeId} {x : Operand} {b o : Nat} {cs : List Value} (hx : ev l x = some (.pointer (some ⟨b, o, none⟩))) (ht : aggB P t = some true) (hs : sizeB P t = some cs.length)
    (hc : ∀ j v, cs[j]? = some v → w.cell? ⟨b, o + j, none⟩ = some v) : Runs P n l (.load t x) ty w (.agg cs.toArray) w := by
  refine ⟨fun c d p af g ha => ?_⟩
  have h1 := run_loadCells_list (P := P) w ⟨b, o, none⟩ cs (fun j v h => by rw [add_mk]; exact hc j v h)
  simp only [execOp, ha.ev hx, Instr.loadAt, Instr.sureAddr, loadVar, Sem.run_bind, Sem.run_pure, Result.andThen, run_isAgg ht, run_sizeOf hs, h1, if_true]

theorem RunsS.store {t : TypeId} {x y : Operand} {a : Addr} {v u : Value} (hx : ev l x = some (.pointer (some a))) (hy : ev l y = some v) (h1 : v.oneCell' = true) (hs : sizeB P t = some 1) (hc : w.cell? a = some u)
    (hf : w.frozen? a = false) : RunsS P n l (.store t x y) ty w (w.setCell a v) := by
  refine ⟨fun c d p af g ha => ?_⟩
  have hcs : v.cells = #[v] := by cases v <;> first | rfl | cases h1
  have hst : (Go.store a v).run P w = .ok () (w.setCell a v) := by
    cases v <;> first | (simp [Go.store, Sem.run, hc, hf]; done) | cases h1
  have ha0 : a.add 0 = a := by simp [Addr.add]
  simp only [execOp, ha.ev hx, ha.ev hy, Instr.storeAt, Instr.sureAddr, storeVar, Sem.run_bind, Sem.run_pure, Result.andThen, run_sizeOf hs, hcs]
  simp [storeCells, ha0, hst]

/-- A whole variable of k cells is stored. -/
theorem RunsS.storeRow {t e : TypeId} {x y : Operand} {b : Nat} {cs old : Array Value} (hx : ev l x = some (.pointer (some ⟨b, 0, none⟩))) (hy : ev l y = some (.agg cs)) (h1 : cs.all (·.oneCell') = true) (hs : sizeB P t = some cs.size)
    (hb : w.heap[b]? = some (.cells old e (0, 0))) (ho : old.size = cs.size) : RunsS P n l (.store t x y) ty w (w.setRow b cs) := by
  refine ⟨fun c d p af g ha => ?_⟩
  have h := run_storeVar_row (P := P) w b e t old cs hb hs ho h1
  simp only [execOp, ha.ev hx, ha.ev hy, Instr.storeAt, Instr.sureAddr, Sem.run_bind, Sem.run_pure, Result.andThen, h]

/-- A field's address ('place': the field's cells ahead). -/
def fieldB (P : Program) (t : TypeId) (f : Nat) : Option Nat := match P.underlying t with
  | some (.struct fs) => (fs[f]?).bind fun f => if ((P.info? f.type).map fun i => decide (i.size = 0)) = some false then some f.offset else none
  | _ => none

theorem Runs.fld {t : TypeId} {x : Operand} {f b o off : Nat} (hx : ev l x = some (.pointer (some ⟨b, o, none⟩))) (hf : fieldB P t f = some off) :
    Runs P n l (.fieldAddr t x f) ty w (.pointer (some ⟨b, o + off, none⟩)) w := by
  refine ⟨fun c d p af g ha => ?_⟩
  unfold fieldB at hf
  split at hf
  · rename_i fs hu
    cases hff : fs[f]? with
    | none => rw [hff] at hf; cases hf
    | some fl =>
      rw [hff] at hf
      simp only [Option.bind_some] at hf
      split at hf
      · rename_i hsz
        cases hf
        cases hi : P.info? fl.type with
        | none => rw [hi] at hsz; cases hsz
        | some i =>
          rw [hi] at hsz
          have hne : ¬ i.size = 0 := by simpa using hsz
          simp only [execOp, ha.ev hx, Instr.fieldAt, Sem.run_bind, run_underlying hu, Result.andThen, hff, Instr.sureAddr, Sem.run_pure, fieldPlace, run_sizeOf (show sizeB P fl.type = some i.size by simp [sizeB, hi]), hne, if_false, add_mk]
      · cases hf
  · cases hf

theorem Runs.of {op : Op} {v : Value} {w' : World} (h : ∀ a : Act, Holds n l a → ∀ d p af g, (execOp a.eval ⟨d, op, ty, p, af, g⟩).run P w = .ok (.value v) w') : Runs P n l op ty w v w' := ⟨fun a d p af g ha => h a ha d p af g⟩

theorem Runs.convTo {s t : TypeId} {x : Operand} {v u : Value} {w' : World} (hx : ev l x = some v) (h : (convert s t v).run P w = .ok u w') : Runs P n l (.convert s t x) ty w u w' := by
  refine ⟨fun c d p af g ha => ?_⟩
  simp only [execOp, ha.ev hx, Sem.run_bind, h, Result.andThen]; rfl

theorem Runs.box {t : TypeId} {x : Operand} {v : Value} (hx : ev l x = some v) : Runs P n l (.box t x) ty w (.pointer (some ⟨w.heap.size, 0, none⟩)) (w.alloc (.cells v.cells t)) := by
  refine ⟨fun c d p af g ha => ?_⟩
  simp only [execOp, ha.ev hx]; rfl

theorem Runs.alloc {t : TypeId} {z : Value} {s b : Nat} (hz : infoB P t = some (some z, s, b)) : Runs P n l (.alloc t) ty w (.pointer (some ⟨w.heap.size, 0, none⟩)) (w.alloc (.cells z.cells t)) := by
  refine ⟨fun c d p af g ha => ?_⟩
  obtain ⟨i, hi, hz, _, _⟩ := info_of hz
  simp only [execOp, Instr.alloc, zeroValue, typeInfo, Sem.run_bind, run_program, Result.andThen, hi, Sem.run_pure, hz]; rfl

theorem Runs.build {t : TypeId} {ps : List (Nat × Operand)} {vs : List (Nat × Value)} {cs : Array Value} (hp : evp l ps = some vs) (hb : P.built t vs = some cs) :
    Runs P n l (.build t ps.toArray) ty w (.agg cs) w := by
  refine ⟨fun c d p af g ha => ?_⟩
  have h1 : (ps.toArray.map fun x => (x.1, c.eval x.2)) = vs.toArray := by rw [List.map_toArray, ha.evp hp]
  have h2 := run_build (P := P) w t vs.toArray cs (by simpa using hb)
  show (Sem.bind (Instr.build t (ps.toArray.map fun x => (x.1, c.eval x.2))) fun v => Sem.pure (Next.value v)).run P w = _
  rw [h1]
  show ((Instr.build t vs.toArray) >>= fun v => pure (Next.value v)).run P w = _
  simp only [Sem.run_bind, h2, Result.andThen]; rfl

theorem Runs.mkIface {t : TypeId} {x : Operand} {v : Value} (hx : ev l x = some v) (ht : P.concrete t = true) : Runs P n l (.makeInterface t x) ty w (.iface t v) w := by
  refine ⟨fun c d p af g ha => ?_⟩
  simp only [execOp, ha.ev hx, Sem.run_bind, run_makeInterface w t v ht, Result.andThen]; rfl

/-- n cells, each the same. -/
theorem madeCells_one (z : Value) (m : Nat) : madeCells #[z] m = Array.replicate m z := by
  apply Array.ext
  · simp [madeCells]
  · intro i h1 h2
    simp [madeCells, Nat.mod_one]

theorem Runs.make {t e : TypeId} {x y : Operand} {k k' : IntKind} {z : Value} {bytes m : Nat} (hx : ev l x = some (.int k (m : Int))) (hy : ev l y = some (.int k' (m : Int))) (ht : P.underlying t = some (.slice e))
    (hi : infoB P e = some (some z, 1, bytes)) (hz : z.cells = #[z]) (hb : bytes * m ≤ 281474976710656) (h63 : m ≤ 9223372036854775807) :
    Runs P n l (.makeSlice t x y) ty w (.slice (some ⟨w.heap.size, 0, none⟩) m m) (w.alloc (.cells (Array.replicate m z) e)) := by
  refine ⟨fun c d p af g ha => ?_⟩
  obtain ⟨i, hi, hz0, hs, hbt⟩ := info_of hi
  have hb' : (i.bytes : Int) * (m : Int) ≤ 281474976710656 := by
    rw [hbt]
    have : ((bytes * m : Nat) : Int) ≤ 281474976710656 := by omega
    rwa [Int.natCast_mul] at this
  have h1 := run_make (P := P) w t e i z ht hi hz0 k k' (m : Int) (m : Int) (by omega) (Int.le_refl _) hb' (by omega)
  simp only [execOp, ha.ev hx, ha.ev hy, Sem.run_bind, h1, Result.andThen, Int.toNat_natCast, hs, Nat.mul_one, hz, madeCells_one]; rfl

/-- '[]T{x}'. -/
theorem Runs.slice1 {t e : TypeId} {x : Operand} {v z : Value} {bytes : Nat} (hx : ev l x = some v) (h1 : v.oneCell' = true) (ht : P.underlying t = some (.slice e)) (hi : infoB P e = some (some z, 1, bytes)) (hz : z.cells = #[z]) :
    Runs P n l (.buildSlice t 1 #[(0, x)]) ty w (.slice (some ⟨w.heap.size, 0, none⟩) 1 1) (w.alloc (.cells #[v] e)) := by
  refine ⟨fun c d p af g ha => ?_⟩
  obtain ⟨i, hi, hz0, hs, hbt⟩ := info_of hi
  have hcs : v.cells = #[v] := by cases v <;> first | rfl | cases h1
  simp only [execOp, List.map_toArray, List.map_cons, List.map_nil, ha.ev hx, Instr.buildSlice, Sem.run_bind, run_underlying ht, Result.andThen, run_sizeOf (show sizeB P e = some 1 by simp [sizeB, hi, hs])]
  simp [zeroValue, typeInfo, hi, hz0, hz, Instr.fill, hcs, newRow]
  rw [show Array.range 1 = #[0] from rfl]; simp

/-- Function f is called. -/
theorem RunsC.call {f : FuncId} {args : List Operand} {ts : Array TypeId} {vs : List Value} (hv : evs l args = some vs) (he : Proofs.Enters P f) :
    RunsC P n l (.call ⟨.value (.func f), args.toArray, ts⟩) ty w f vs.toArray := by
  refine ⟨fun c d p af g ha => ?_⟩
  have h1 : args.toArray.map c.eval = vs.toArray := by rw [List.map_toArray, ha.evs hv]
  have h2 : c.eval (.func f) = .func (.func f) #[] #[] := rfl
  have h3 := he vs.toArray w
  simp only [execOp, resolve, h1, h2, Deferred.ofValue, Sem.run_bind, Sem.run_pure, Result.andThen, invoke, Array.empty_append, Array.append_empty, h3]

/-- A function value is called. -/
theorem RunsC.callV {f : FuncId} {x : Operand} {first cap : Array Value} {args : List Operand} {ts : Array TypeId} {vs : List Value} (hx : ev l x = some (.func (.func f) first cap)) (hv : evs l args = some vs) (he : Proofs.Enters P f) :
    RunsC P n l (.call ⟨.value x, args.toArray, ts⟩) ty w f (first ++ vs.toArray ++ cap) := by
  refine ⟨fun c d p af g ha => ?_⟩
  have h1 : args.toArray.map c.eval = vs.toArray := by rw [List.map_toArray, ha.evs hv]
  have h3 := he (first ++ vs.toArray ++ cap) w
  simp only [execOp, resolve, h1, ha.ev hx, Deferred.ofValue, Sem.run_bind, Sem.run_pure, Result.andThen, invoke, h3]

/-- A builtin with a value. -/
theorem Runs.builtin {b : Builtin} {args : List Operand} {ts : Array TypeId} {vs : List Value} {v : Value} {w' : World} (hv : evs l args = some vs)
    (h : ∀ cs, (Go.builtin b ts ty cs vs.toArray).run P w = .ok (.value v) w') : Runs P n l (.call ⟨.builtin b, args.toArray, ts⟩) ty w v w' := by
  refine ⟨fun c d p af g ha => ?_⟩
  have h1 : args.toArray.map c.eval = vs.toArray := by rw [List.map_toArray, ha.evs hv]
  simp only [execOp, resolve, h1, Sem.run_bind, Sem.run_pure, Result.andThen, invoke, h]
theorem Runs.append {args : List Operand} {ts : Array TypeId} {vs : List Value} {v : Value} {w' : World} (hv : evs l args = some vs) (h : (Builtin.append_ ts ty vs.toArray).run P w = .ok v w') :
    Runs P n l (.call ⟨.builtin .append, args.toArray, ts⟩) ty w v w' := Runs.builtin hv fun cs => by
  simp only [Go.builtin, Sem.run_bind, h, Result.andThen]; rfl
theorem Runs.copy {args : List Operand} {ts : Array TypeId} {vs : List Value} {v : Value} {w' : World} (hv : evs l args = some vs) (h : (Builtin.copy_ ts ty vs.toArray).run P w = .ok v w') :
    Runs P n l (.call ⟨.builtin .copy, args.toArray, ts⟩) ty w v w' := Runs.builtin hv fun cs => by
  simp only [Go.builtin, Sem.run_bind, h, Result.andThen]; rfl

/-- An element's address, the slice's own address told apart. -/
theorem Runs.idxA {t e : TypeId} {x i : Operand} {k : IntKind} {A : Option Addr} {b o len cap m : Nat} {j : Int} (hA : A = some ⟨b, o, none⟩) (hx : ev l x = some (.slice A len cap)) (hi : ev l i = some (.int k j))
    (ht : P.underlying t = some (.slice e)) (hs : sizeB P e = some 1) (hj : j = (m : Int)) (hm : m < len) :
    Runs P n l (.indexAddr t x i) ty w (.pointer (some ⟨b, o + m, none⟩)) w := by subst hA; exact Runs.idx1 hx hi ht hs hj hm
end

/-- Nothing is appended where there is room. -/
theorem run_append_none {P : Program} (w : World) (t ty e : TypeId) (sz : Nat) (a : Option Addr) (m c c' : Nat) (b : Option Addr) (ht : P.underlying t = some (.slice e)) (hs : sizeB P e = some sz) (hc : m ≤ c) (hb : b = none) :
    (Builtin.append_ #[t, t] ty #[.slice a m c, .slice b 0 c']).run P w = .ok (.slice a m c) w := by
  subst hb
  unfold sizeB at hs
  cases hi : P.info? e with
  | none => rw [hi] at hs; cases hs
  | some i =>
    simp [Builtin.append_, run_underlying ht, sizeOf, typeInfo, hi, Builtin.lenOf, Builtin.firstCells, hc]
    cases a <;> simp [storeCells]

/-- What is appended does not fit: a new row. -/
theorem run_append_new {P : Program} (w : World) (t ty e : TypeId) {z : Value} {bytes : Nat} (ht : P.underlying t = some (.slice e)) (hi : infoB P e = some (some z, 1, bytes)) (b o sLen sCap : Nat) (olds : List Value) (hlo : olds.length = sLen)
    (holds : ∀ j v, olds[j]? = some v → w.cell? ⟨b, o + j, none⟩ = some v) (b' o' m c : Nat) (news : List Value) (hl : news.length = m) (hnews : ∀ j v, news[j]? = some v → w.cell? ⟨b', o' + j, none⟩ = some v)
    (hg : sCap < sLen + m) (h63 : sLen + m ≤ 9223372036854775807) (hfit : Builtin.nextslicecap (sLen + m) sCap * bytes ≤ 281474976710656) :
    ∃ (cap' : Nat) (tail : Array Value), sLen + m ≤ cap' ∧ (Builtin.append_ #[t, t] ty #[.slice (some ⟨b, o, none⟩) sLen sCap, .slice (some ⟨b', o', none⟩) m c]).run P w =
      .ok (.slice (some ⟨w.heap.size, 0, none⟩) (sLen + m) cap') (w.drew.alloc (.cells ((olds ++ news).toArray ++ tail) e)) := by
  obtain ⟨i, hi, hz, hs, hbt⟩ := info_of hi
  have h := run_append_grow (P := P) w t ty e i z ht hi hz ⟨b, o, none⟩ sLen sCap olds (by rw [hs, hlo, Nat.mul_one]) (fun j v hj => by rw [add_mk]; exact holds j v hj)
    ⟨b', o', none⟩ m c news (by rw [hs, hl, Nat.mul_one]) (fun j v hj => by rw [add_mk]; exact hnews j v hj) hg (by omega) (by rw [hbt]; exact hfit)
  refine ⟨grownCap w (sLen + m) sCap e, Builtin.zeroCells z.cells (grownCap w (sLen + m) sCap e - (sLen + m)), ?_, ?_⟩
  · unfold grownCap Question.cut; simp only; omega
  · rw [h, ← List.append_toArray]

/-- A function is entered. -/
theorem calls_of {P : Program} {f : FuncId} {fn : Func} {c : Code} {vs : List Value} {w : World} {R : Ending → World → Prop} {n : Nat} (hf : P.funcs[f]? = some fn) (hb : fn.body = some c) (hn : fn.ntmps = n)
    (hle : Nat.ble vs.length n = true) (h : WC P (bodyPost P fn R) n (ix 0 vs) c w) : Calls P f vs.toArray w R := by
  refine calls_of_wp hf hb ?_
  subst hn
  exact h.on _ (Holds.enter hle)

/-- It returns one slot. -/
theorem post1 {P : Program} {fn : Func} {R : Ending → World → Prop} {n : Nat} {l : List (Nat × Value)} {w : World} {t : Tmp} {v : Value} (hr : fn.results = #[.tmp t]) (hv : lk l t = some v) (h : R (.returned v) w) : AtExit (bodyPost P fn R) .ret n l w := by
  refine ⟨fun a ha => ?_⟩
  refine bodyPost_ret (results_tmp hr _ _ _) ha.dfr ?_
  rw [Array.getD_eq_getD_getElem?, ha.slot t v hv]
  exact h
theorem post2 {P : Program} {fn : Func} {R : Ending → World → Prop} {n : Nat} {l : List (Nat × Value)} {w : World} {t u : Tmp} {v x : Value} (hr : fn.results = #[.tmp t, .tmp u]) (hv : lk l t = some v) (hx : lk l u = some x)
    (h : R (.returned (.tuple #[v, x])) w) : AtExit (bodyPost P fn R) .ret n l w := by
  refine ⟨fun a ha => ?_⟩
  refine bodyPost_ret (results_tmp2 hr _ _ _) ha.dfr ?_
  rw [Array.getD_eq_getD_getElem?, ha.slot t v hv, Array.getD_eq_getD_getElem?, ha.slot u x hx]
  exact h
theorem post3 {P : Program} {fn : Func} {R : Ending → World → Prop} {n : Nat} {l : List (Nat × Value)} {w : World} {t u s : Tmp} {v x y : Value} (hr : fn.results = #[.tmp t, .tmp u, .tmp s]) (hv : lk l t = some v) (hx : lk l u = some x)
    (hy : lk l s = some y) (h : R (.returned (.tuple #[v, x, y])) w) : AtExit (bodyPost P fn R) .ret n l w := by
  refine ⟨fun a ha => ?_⟩
  refine bodyPost_ret (v := .tuple #[v, x, y]) ?_ ha.dfr h
  simp [results, hr, Array.getD_eq_getD_getElem?, ha.slot t v hv, ha.slot u x hx, ha.slot s y hy]
theorem post0 {P : Program} {fn : Func} {R : Ending → World → Prop} {n : Nat} {l : List (Nat × Value)} {w : World} (hr : fn.results = #[]) (h : R (.returned (.tuple #[])) w) : AtExit (bodyPost P fn R) .ret n l w :=
  ⟨fun _ ha => bodyPost_ret (results_none hr _ _ _) ha.dfr h⟩
theorem post0e {P : Program} {fn : Func} {R : Ending → World → Prop} {n : Nat} {l : List (Nat × Value)} {w : World} (hr : fn.results = #[]) (h : R (.returned (.tuple #[])) w) : AtExit (bodyPost P fn R) .normal n l w :=
  ⟨fun _ ha => bodyPost_end (results_none hr _ _ _) ha.dfr h⟩

theorem wrap64_id {x : Int} (h0 : -9223372036854775808 ≤ x) (h1 : x ≤ 9223372036854775807) : IntKind.i64.wrap x = x := by rw [IntKind.wrap_i64]; omega
end Go.Fr
