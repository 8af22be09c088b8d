/- A []int of the call's own; comparing two times; what the law's argument reads as. -/
import Derived.Test.YbulkgfauPend
namespace Go.Proofs.Ybulkgfau
open Go Go.Fr Go.RowKit Go.Lib

def iv (i : Nat) : Value := .int .i64 (i : Int)
/-- The slice v holds the numbers J; its row, if any, lies at base or above. -/
structure Ix (w : World) (base : Nat) (v : Value) (J : List Nat) : Prop where
  own : w.ownsRow base 3 1 v J.length (J.map iv)

section
variable {w w' : World} {base : Nat} {v : Value} {J : List Nat}
theorem Ix.shape (h : Ix w base v J) : ∃ p c, v = .slice p J.length c := by
  rcases h.own.2 with ⟨rfl, h0⟩ | ⟨g, cap, cur, rfl, _⟩
  · exact ⟨none, 0, by rw [h0]⟩
  · exact ⟨_, _, rfl⟩
theorem Ix.row (h : Ix w base v J) (hne : 0 < J.length) : ∃ g cap cur, v = .slice (some ⟨g, 0, none⟩) J.length cap ∧ base ≤ g ∧ w.heap[g]? = some (.cells cur 3 (0, 0)) ∧ cur.toList.take J.length = J.map iv := by
  rcases h.own.2 with ⟨_, h0⟩ | ⟨g, cap, cur, hv, hb, hg, _, _, _, htake⟩
  · omega
  · exact ⟨g, cap, cur, hv, hb, hg, by simpa using htake⟩
theorem Ix.below (h : Ix w base v J) (hb : Below w.heap.size w w') : Ix w' base v J := ⟨h.own.kept (grown_of_below hb none) (by cases hv : v.ownBlock <;> simp)⟩
theorem take_cell {cur : Array Value} {n i : Nat} {xs : List Value} {u : Value} (h : cur.toList.take n = xs) (hi : xs[i]? = some u) : cur[i]? = some u := by
  rw [← h, List.getElem?_take] at hi
  split at hi
  · simpa using hi
  · cases hi
/-- One number is written. -/
theorem Ix.set {g cap : Nat} (h : Ix w base (.slice (some ⟨g, 0, none⟩) J.length cap) J) (i x : Nat) :
    Ix (w.setCell ⟨g, 0 + i, none⟩ (iv x)) base (.slice (some ⟨g, 0, none⟩) (J.set i x).length cap) (J.set i x) := by
  refine ⟨⟨by simp, Or.inr ?_⟩⟩
  rcases h.own.2 with ⟨hv, _⟩ | ⟨g', cap', cur, hv, hb, hg, h1, h2, h3, htake⟩
  · cases hv
  · cases hv
    refine ⟨g, cap, cur.setIfInBounds (0 + i) (iv x), rfl, hb, heap_set hg, by simpa using h1, h2, by simpa using h3, ?_⟩
    rw [Array.toList_setIfInBounds, Nat.zero_add, List.length_set, List.map_set, ← htake, ← List.take_set]
theorem Ix.cell {g cap : Nat} (h : Ix w base (.slice (some ⟨g, 0, none⟩) J.length cap) J) {i x : Nat} (hi : J[i]? = some x) : w.cell? ⟨g, 0 + i, none⟩ = some (iv x) := by
  have hl : i < J.length := (List.getElem?_eq_some_iff.1 hi).1
  obtain ⟨g', cap', cur, hv, _, hg, htake⟩ := h.row (by omega)
  cases hv
  rw [cell_of hg, Nat.zero_add]
  exact take_cell htake (by rw [List.getElem?_map, hi]; rfl)
theorem Ix.frozen {g cap : Nat} (h : Ix w base (.slice (some ⟨g, 0, none⟩) J.length cap) J) (hl : 0 < J.length) (o : Nat) : w.frozen? ⟨g, o, none⟩ = false := by
  obtain ⟨g', cap', cur, hv, _, hg, htake⟩ := h.row hl
  cases hv
  exact frozen_of hg
theorem Ix.ge {g cap : Nat} (h : Ix w base (.slice (some ⟨g, 0, none⟩) J.length cap) J) (hl : 0 < J.length) : base ≤ g ∧ g < w.heap.size := by
  obtain ⟨g', cap', cur, hv, hb, hg, htake⟩ := h.row hl
  cases hv
  exact ⟨hb, lt_of_heap hg⟩
theorem Ix.nil (w : World) (base : Nat) : Ix w base (.slice none 0 0) [] := ⟨⟨rfl, Or.inl ⟨rfl, rfl⟩⟩⟩
end

/-- One number is appended. -/
theorem Ix.add {w : World} {base : Nat} {v : Value} {J : List Nat} (h : Ix w base v J) (hb : base ≤ w.heap.size) (x : Nat) (hl : J.length < 4096) :
    ∃ v' w', (Builtin.append_ #[37, 37] 37 #[v, .slice (some ⟨w.heap.size, 0, none⟩) 1 1]).run Yba.prog (w.alloc (.cells #[iv x] 3)) = .ok v' w' ∧ Ix w' base v' (J ++ [x]) ∧ Below base w w' ∧ base ≤ w'.heap.size := by
  have hB := below_new w (.cells #[iv x] 3) (Nat.le_refl _)
  have h1 := h.below hB
  have hc := heap_new w (.cells #[iv x] 3)
  obtain ⟨i, hi, hz, hs, hby⟩ := info_of in3
  obtain ⟨v', w', hrun, hown, hgr, hnil⟩ := run_append_own (P := Yba.prog) (w.alloc (.cells #[iv x] 3)) base 37 37 3 i _ 1 8 Yba.underlying37 hi hz hs hby rfl (by decide) v J.length (J.map iv) h1.own
    ⟨w.heap.size, 0, none⟩ 1 1 [iv x] rfl (fun j u hu => by rw [add_mk, cell_of hc, Nat.zero_add]; simpa using hu) (by intro u hu; rw [List.mem_singleton.1 hu]; rfl) (by simp only [maxLen]; omega) (by omega) (by rw [size_new]; omega)
  have hlen : (J ++ [x]).length = J.length + 1 := by simp
  have hmap : J.map iv ++ [iv x] = (J ++ [x]).map iv := by simp
  rw [hmap, ← hlen] at hown
  refine ⟨v', w', hrun, ⟨hown⟩, (hB.mono hb).trans ⟨hgr.os, hgr.tape, hgr.output, hgr.size, fun k hk => hgr.block k (by rw [size_new]; omega) (fun e => ?_)⟩, ?_⟩
  · have := (h1.own.lt k e.symm).1
    omega
  · have := hgr.size
    rw [size_new] at this
    omega

/-! ### Two times are compared -/
theorem fields33 : (Yba.prog.fieldsOf 33).toList.map (fun f => (f.name == "_", f.type, f.offset)) = [(false, 30, 0), (false, 2, 1), (false, 31, 2)] := by kernel_rfl
theorem pt31 : Yba.prog.underlying 31 = some (.pointer (Yba.prog.pointee 31)) := by kernel_rfl
theorem guard33 : Yba.prog.eqGuardType Yba.prog.depth 33 = false := by kernel_rfl
theorem struct33 : Yba.prog.underlying 33 = some (.struct (Yba.prog.fieldsOf 33)) := by kernel_rfl
theorem held33 : Yba.prog.stoodInHeld 33 = false := by kernel_rfl
theorem info26 : (Yba.prog.info? (Yba.prog.pointee 23)).isSome = true := by kernel_rfl
theorem run_part {P : Program} {t : TypeId} {cs : Array Value} {o : Nat} {v : Value} (w : World) (h : aggB P t = some false) (hv : cs[o]? = some v) : (part t cs o).run P w = .ok v w := by
  unfold part
  simp only [Sem.run_bind, run_isAgg h, Result.andThen, Bool.false_eq_true, if_false, hv]; rfl
theorem eqF_step {P : Program} {d : Nat} {xs ys : Array Value} {f : Field} {fs : List Field} {v u : Value} {w : World} (hn : f.name ≠ "_") (ha : aggB P f.type = some false) (hx : xs[f.offset]? = some v) (hy : ys[f.offset]? = some u)
    (he : (Op.equalIn d f.type v u).run P w = .ok true w) : (Op.eqFields d xs ys (f :: fs)).run P w = (Op.eqFields d xs ys fs).run P w := by
  rw [Op.eqFields, if_pos hn]
  simp only [Sem.run_bind, run_part w ha hx, run_part w ha hy, Result.andThen, he]; rfl
theorem eq33 (a b : Int) (w : World) : (Op.eqFields 9999 #[.int .u64 a, .int .i64 b, .pointer none] #[.int .u64 a, .int .i64 b, .pointer none] (Yba.prog.fieldsOf 33).toList).run Yba.prog w = .ok true w := by
  have hf := fields33
  generalize (Yba.prog.fieldsOf 33).toList = fs at hf ⊢
  obtain ⟨f1, f2, f3, rfl⟩ : ∃ f1 f2 f3, fs = [f1, f2, f3] := by
    have h : fs.length = 3 := by
      have := congrArg List.length hf
      simpa using this
    match fs, h with
    | [f1, f2, f3], _ => exact ⟨f1, f2, f3, rfl⟩
  simp only [List.map_cons, List.map_nil, List.cons.injEq, Prod.mk.injEq, and_true] at hf
  obtain ⟨⟨n1, t1, o1⟩, ⟨n2, t2, o2⟩, ⟨n3, t3, o3⟩⟩ := hf
  have m1 : f1.name ≠ "_" := by simpa using n1
  have m2 : f2.name ≠ "_" := by simpa using n2
  have m3 : f3.name ≠ "_" := by simpa using n3
  have e1 : (Op.equalIn 9999 30 (.int .u64 a) (.int .u64 a)).run Yba.prog w = .ok true w := by
    have := run_equalIn_int (P := Yba.prog) w 9998 30 .u64 .u64 a a Yba.underlying30
    rwa [beq_self_eq_true] at this
  have e2 : (Op.equalIn 9999 2 (.int .i64 b) (.int .i64 b)).run Yba.prog w = .ok true w := by
    have := run_equalIn_int (P := Yba.prog) w 9998 2 .i64 .i64 b b Yba.underlying2
    rwa [beq_self_eq_true] at this
  have e3 : (Op.equalIn 9999 31 (.pointer none) (.pointer none)).run Yba.prog w = .ok true w := run_equalIn_pointer_nil (P := Yba.prog) w 9998 31 none pt31
  rw [eqF_step m1 (by rw [t1]; exact na30) (v := .int .u64 a) (u := .int .u64 a) (by rw [o1]; rfl) (by rw [o1]; rfl) (by rw [t1]; exact e1),
    eqF_step m2 (by rw [t2]; exact na2) (v := .int .i64 b) (u := .int .i64 b) (by rw [o2]; rfl) (by rw [o2]; rfl) (by rw [t2]; exact e2),
    eqF_step m3 (by rw [t3]; exact na31) (v := .pointer none) (u := .pointer none) (by rw [o3]; rfl) (by rw [o3]; rfl) (by rw [t3]; exact e3)]
  rfl

/-- What the argument reads as: m records. -/
def RecsAt (w : World) (N : Nat) (A : Option Addr) (m : Nat) (sq dy : Nat → Int) (kd : Nat → Nat) : Prop :=
  ∀ i, i < m → ∃ b o, A = some ⟨b, o, none⟩ ∧ b < N ∧ w.cell? ⟨b, o + i * 3 + 0, none⟩ = some (.int .i64 (sq i)) ∧ w.cell? ⟨b, o + i * 3 + 1, none⟩ = some (.int .i64 (dy i)) ∧ w.cell? ⟨b, o + i * 3 + 2, none⟩ = some (.int .u8 (kd i : Int))
theorem RecsAt.below {w w' : World} {N : Nat} {A : Option Addr} {m : Nat} {sq dy : Nat → Int} {kd : Nat → Nat} (h : RecsAt w N A m sq dy kd) (hB : Below N w w') : RecsAt w' N A m sq dy kd := by
  intro i hi
  obtain ⟨b, o, h1, h2, h3, h4, h5⟩ := h i hi
  exact ⟨b, o, h1, h2, (hB.cell (p := ⟨b, o + i * 3 + 0, none⟩) h2).trans h3, (hB.cell (p := ⟨b, o + i * 3 + 1, none⟩) h2).trans h4, (hB.cell (p := ⟨b, o + i * 3 + 2, none⟩) h2).trans h5⟩
theorem Runs.idxK {P : Program} {n : Nat} {l : List (Nat × Value)} {w : World} {ty : TypeId} {t e : TypeId} {x i : Operand} {k : IntKind} {A : Option Addr} {b o len cap m sz : Nat} {j : Int} (hA : A = some ⟨b, o, none⟩) (hx : ev l x = some (.slice A len cap)) (hi : ev l i = some (.int k j))
    (ht : P.underlying t = some (.slice e)) (hs : sizeB P e = some sz) (hj : j = (m : Int)) (hm : m < len) :
    Runs P n l (.indexAddr t x i) ty w (.pointer (some ⟨b, o + m * sz, none⟩)) w := by subst hA; exact Runs.idx hx hi ht hs hj hm
end Go.Proofs.Ybulkgfau
