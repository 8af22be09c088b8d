/- Comparisons. -/
import Derived.Test.YbulkgfdmPick
import Derived.LaidEqlPtr
namespace Go.Proofs.Ybulkgfdm
open Go Go.Fr Go.RowKit

theorem keqn (w : World) : ∀ (x : Nat), x < 9 → (Op.equalIn 9999 48 (kv x) (kv x)).run Yba.prog w = .ok true w
  | 0, _ => by kernel_rfl
  | 1, _ => by kernel_rfl
  | 2, _ => by kernel_rfl
  | 3, _ => by kernel_rfl
  | 4, _ => by kernel_rfl
  | 5, _ => by kernel_rfl
  | 6, _ => by kernel_rfl
  | 7, _ => by kernel_rfl
  | 8, _ => by kernel_rfl
theorem part48 (x : Nat) (d : Int) (w : World) : (part 48 (keptC (x, d)).toArray 0).run Yba.prog w = .ok (kv x) w := by kernel_rfl
theorem part24 (x : Nat) (d : Int) (w : World) : (part 24 (keptC (x, d)).toArray 6).run Yba.prog w = .ok (.int .i64 d) w := by kernel_rfl
theorem fields70 : (Yba.prog.fieldsOf 70).toList.map (fun f => (f.name == "_", f.type, f.offset)) = [(false, 48, 0), (false, 24, 6)] := by kernel_rfl
theorem kept_eq (x : Nat) (d : Int) (hx : x < 9) (w : World) : (Op.eqFields 9999 (keptC (x, d)).toArray (keptC (x, d)).toArray (Yba.prog.fieldsOf 70).toList).run Yba.prog w = .ok true w := by
  have h := fields70
  generalize (Yba.prog.fieldsOf 70).toList = fs at h ⊢
  rcases fs with _ | ⟨f, _ | ⟨g, _ | ⟨q, fs⟩⟩⟩
  · simp at h
  · simp at h
  · simp only [List.map_cons, List.map_nil, List.cons.injEq, Prod.mk.injEq, and_true] at h
    obtain ⟨⟨n1, t1, o1⟩, n2, t2, o2⟩ := h
    have n1' : f.name ≠ "_" := fun e => by rw [e] at n1; simp at n1
    have n2' : g.name ≠ "_" := fun e => by rw [e] at n2; simp at n2
    have e1 := keqn w x hx
    have e2 := run_equalIn_int (P := Yba.prog) w 9998 24 .i64 .i64 d d Yba.underlying24
    simp only [Op.eqFields, n1', n2', ne_eq, not_false_eq_true, if_true, t1, o1, t2, o2, Sem.run_bind, part48, part24, Result.andThen, e1, e2, Bool.not_true, Bool.false_eq_true, if_false, BEq.rfl, Sem.run_pure]
  · simp at h
theorem arr55 (w : World) : (binOp .neq 55 (.agg S0.toArray) (.agg S0.toArray)).run Yba.prog w = .ok (.bool false) w := by kernel_rfl
theorem eg70 : Yba.prog.eqGuardType Yba.prog.depth 70 = false := by kernel_rfl
theorem eg55 : Yba.prog.eqGuardType Yba.prog.depth 55 = false := by kernel_rfl
theorem un70 : Yba.prog.underlying 70 = some (.struct (Yba.prog.fieldsOf 70)) := by kernel_rfl
theorem sh70 : Yba.prog.stoodInHeld 70 = false := by kernel_rfl
section
variable {n : Nat} {l : List (Nat × Value)} {w : World} {ty : TypeId}
theorem Runs.neq70 {x y : Operand} {t' : TypeId} {k : Nat} {d : Int} (hx : ev l x = some (.agg (keptC (k, d)).toArray)) (hy : ev l y = some (.agg (keptC (k, d)).toArray)) (hk : k < 9) : Runs Yba.prog n l (.binOp .neq 70 x y t') ty w (.bool false) w :=
  Runs.neqA hx hy eg70 un70 sh70 (kept_eq k d hk w) rfl
theorem Runs.neq55 {x y : Operand} {t' : TypeId} (hx : ev l x = some (.agg S0.toArray)) (hy : ev l y = some (.agg S0.toArray)) : Runs Yba.prog n l (.binOp .neq 55 x y t') ty w (.bool false) w := by
  refine ⟨fun c d p af g ha => ?_⟩
  simp only [execOp, ha.ev hx, ha.ev hy, Sem.run_bind, run_eqGuard_agg w .neq 55 x y _ _ eg55, Result.andThen, arr55]; rfl
theorem Runs.eqlMN {x : Operand} {t' : TypeId} {b : Nat} (hx : ev l x = some (.map (some b))) : Runs Yba.prog n l (.binOp .eql 56 x (.const (.map none)) t') ty w (.bool false) w := by
  refine ⟨fun c d p af g ha => ?_⟩
  have hq : (eqGuard .eql 56 x (.const (.map none)) (.map (some b)) (.map none)).run Yba.prog w = .ok () w := rfl
  simp only [execOp, ha.ev hx, eval_const, Sem.run_bind, hq, Result.andThen, run_eql_map_nil w 56 48 42 (some b) und56]; rfl
theorem Runs.lenMap0 {x : Operand} {b c : Nat} (hx : ev l x = some (.map (some b))) (h : w.heap[b]? = some (.map #[] c)) : Runs Yba.prog n l (.call ⟨.builtin .len, #[x], #[56]⟩) ty w (.int .i64 0) w :=
  Runs.builtin (args := [x]) (vs := [.map (some b)]) (by simp [evs, hx]) fun cs => by
    simp only [Go.builtin, Builtin.len_, Sem.run_bind]
    simp [run_underlying und56, run_getMap h, goInt]
/-- Two timers. -/
theorem Runs.eql42 {x y : Operand} {t' : TypeId} {a b : Nat} {ca cb : Array Value} (hx : ev l x = some (pv a)) (hy : ev l y = some (pv b)) (ha : w.heap[a]? = some (.cells ca 73 (0, 0))) (hb : w.heap[b]? = some (.cells cb 73 (0, 0))) :
    Runs Yba.prog n l (.binOp .eql 42 x y t') ty w (.bool (decide (a = b))) w := by
  refine ⟨fun c d p af g hh => ?_⟩
  obtain ⟨j, hj⟩ := Option.isSome_iff_exists.1 ip42
  have h73 : Yba.prog.pointee 42 = 73 := by kernel_rfl
  have hsz : j.size ≠ 0 := by
    have := sz73
    rw [h73] at hj
    unfold sizeB at this
    rw [hj] at this
    simp only [Option.map_some, Option.some.injEq] at this
    omega
  have h : (binOp .eql 42 (pv a) (pv b)).run Yba.prog w = .ok (.bool (decide (a = b))) w := by
    by_cases e : a = b
    · subst e
      rw [decide_eq_true rfl]
      exact run_eql_ptr_same w ⟨a, 0, none⟩ pt42 hj
    · rw [decide_eq_false e]
      exact run_eql_ptr_other w (a := ⟨a, 0, none⟩) (b := ⟨b, 0, none⟩) pt42 hj hsz (fun e' => e (by cases e'; rfl)) ha hb
  simp only [execOp, hh.ev hx, hh.ev hy, Sem.run_bind, pv, run_eqGuard_ptr, Result.andThen]
  unfold pv at h
  rw [h]; rfl
theorem Runs.makeLC {t e : TypeId} {x y : Operand} {k k' : IntKind} {z : Value} {bytes m sz : Nat} (hx : ev l x = some (.int k 0)) (hy : ev l y = some (.int k' (m : Int))) (ht : Yba.prog.underlying t = some (.slice e))
    (hi : infoB Yba.prog e = some (some z, sz, bytes)) (hb : bytes * m ≤ 281474976710656) (h63 : m ≤ 9223372036854775807) :
    Runs Yba.prog n l (.makeSlice t x y) ty w (.slice (some ⟨w.heap.size, 0, none⟩) 0 m) (w.alloc (.cells (madeCells z.cells (m * sz)) e)) := by
  refine ⟨fun c d p af g ha => ?_⟩
  obtain ⟨i, hi, hz0, hs, hbt⟩ := info_of hi
  have hb' : (i.bytes : Int) * (m : Int) ≤ 281474976710656 := by
    rw [hbt]
    have : ((bytes * m : Nat) : Int) ≤ 281474976710656 := by omega
    rwa [Int.natCast_mul] at this
  have h1 := run_make (P := Yba.prog) w t e i z ht hi hz0 k k' 0 (m : Int) (by omega) (by omega) hb' (by omega)
  simp only [execOp, ha.ev hx, ha.ev hy, Sem.run_bind, h1, Result.andThen, Int.toNat_natCast, hs]; rfl
end
def bC (b : Bool) : List Value := [.bool b]
theorem bC_len (b : Bool) : (bC b).length = 1 := rfl
theorem flat_bC : ∀ m : Nat, flatA bC (List.replicate m false) = List.replicate m (.bool false)
  | 0 => rfl
  | m + 1 => by rw [List.replicate_succ, flatA_cons, flat_bC m, List.replicate_succ]; rfl
theorem own_made {N m : Nat} {w : World} (hN : N ≤ w.heap.size) (hm : m ≤ 5000) : OwnA keptC 7 70 N (w.alloc (.cells (madeCells (Value.agg #[.string ⟨#[]⟩, .string ⟨#[]⟩, .int .u8 0, .int .u32 0, .bool false, .bool false, .int .i64 0]).cells (m * 7)) 70)) (.slice (some ⟨w.heap.size, 0, none⟩) 0 m) [] :=
  ⟨rfl, Or.inr ⟨w.heap.size, m, _, rfl, hN, heap_new w _, Nat.zero_le _, by simp only [maxLen]; omega, by simp [size_madeCells], by simp [flatA]⟩⟩

/-- The best so far. -/
def BI (E Es : List Ent) (n j : Nat) : Option Nat → Prop
  | none => ∀ (j' : Nat) (e : Ent), j' < j → E[j']? = some e → e ∈ Es.take n
  | some b => ∃ eb, E[b]? = some eb ∧ eb ∉ Es.take n ∧ ∀ (j' : Nat) (e : Ent), j' < j → E[j']? = some e → e ∉ Es.take n → ¬ elt e eb
def bI : Option Nat → Int
  | none => -1
  | some b => b
section
variable {E Es : List Ent} {n j : Nat} {e : Ent}
theorem lt_or {j' : Nat} (h : j' < j + 1) : j' < j ∨ j' = j := by omega
theorem BI.used {o : Option Nat} (h : BI E Es n j o) (hj : E[j]? = some e) (hm : e ∈ Es.take n) : BI E Es n (j + 1) o := by
  cases o with
  | none =>
    intro j' e' hj' he'
    rcases lt_or hj' with h1 | h1
    · exact h j' e' h1 he'
    · subst h1
      rw [hj] at he'
      cases he'
      exact hm
  | some b =>
    obtain ⟨eb, h1, h2, h3⟩ := h
    refine ⟨eb, h1, h2, fun j' e' hj' he' hn => ?_⟩
    rcases lt_or hj' with h4 | h4
    · exact h3 j' e' h4 he' hn
    · subst h4
      rw [hj] at he'
      cases he'
      exact absurd hm hn
theorem BI.first (h : BI E Es n j none) (hj : E[j]? = some e) (hm : e ∉ Es.take n) : BI E Es n (j + 1) (some j) := by
  refine ⟨e, hj, hm, fun j' e' hj' he' hn => ?_⟩
  rcases lt_or hj' with h1 | h1
  · exact absurd (h j' e' h1 he') hn
  · subst h1
    rw [hj] at he'
    cases he'
    exact elt_irrefl _
theorem BI.less {b : Nat} {eb : Ent} (h : BI E Es n j (some b)) (hb : E[b]? = some eb) (hj : E[j]? = some e) (hm : e ∉ Es.take n) (hl : elt e eb) : BI E Es n (j + 1) (some j) := by
  obtain ⟨eb', h1, h2, h3⟩ := h
  rw [hb] at h1
  cases h1
  refine ⟨e, hj, hm, fun j' e' hj' he' hn hlt => ?_⟩
  rcases lt_or hj' with h4 | h4
  · exact h3 j' e' h4 he' hn (elt_trans hlt hl)
  · subst h4
    rw [hj] at he'
    cases he'
    exact elt_irrefl _ hlt
theorem BI.notless {b : Nat} {eb : Ent} (h : BI E Es n j (some b)) (hb : E[b]? = some eb) (hj : E[j]? = some e) (hl : ¬ elt e eb) : BI E Es n (j + 1) (some b) := by
  obtain ⟨eb', h1, h2, h3⟩ := h
  rw [hb] at h1
  cases h1
  refine ⟨eb, hb, h2, fun j' e' hj' he' hn hlt => ?_⟩
  rcases lt_or hj' with h4 | h4
  · exact h3 j' e' h4 he' hn hlt
  · subst h4
    rw [hj] at he'
    cases he'
    exact hl hlt
end
end Go.Proofs.Ybulkgfdm
