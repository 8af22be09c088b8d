/- SliceStable, and the sort of at most one record. -/
import Derived.Test.YbulkgfauStable
namespace Go.Proofs.Ybulkgfau
open Go Go.Fr Go.RowKit Go.Lib

theorem insertion_tiny (x y : Value) (n : Nat) (hn : n ≤ 1) (w : World) :
    Calls Yba.prog 29 #[.agg #[x, y], .int .i64 0, .int .i64 (n : Int)] w fun e w' => e = .returned (.tuple #[]) ∧ Below w.heap.size w w' := by
  refine calls_of Yba.func29 rfl Yba.ntmps29 rfl ?_
  refine WC.seq (WC.region ?_)
  refine WL.val rfl rfl (Runs.box rfl) ?_
  refine WL.nil ?_
  repeat (first | refine AtExit.thenRet ?_ | refine AtExit.thenExit ?_ | refine AtExit.blockRet ?_ | refine AtExit.blockEnd ?_ | refine AtExit.blockExit ?_ | (refine AtExit.blockPast ?_ ?_; rfl))
  refine AtExit.go ?_
  refine WC.seq (WC.region ?_)
  repeat (first | (refine WL.val ?_ ?_ (Runs.move rfl) ?_; rfl; rfl) | (refine WL.val ?_ ?_ (Runs.assign rfl) ?_; rfl; rfl) | (refine WL.val ?_ ?_ (Runs.extract rfl rfl) ?_; rfl; rfl) | (refine WL.val ?_ ?_ (Runs.nilCheck rfl) ?_; rfl; rfl) | (refine WL.val ?_ ?_ (Runs.pickT rfl rfl) ?_; rfl; rfl) | (refine WL.val ?_ ?_ (Runs.pickF rfl rfl) ?_; rfl; rfl) | (refine WL.val ?_ ?_ (Runs.len rfl sl22) ?_; rfl; rfl) | (refine WL.val ?_ ?_ (Runs.len rfl sl27) ?_; rfl; rfl) | (refine WL.val ?_ ?_ (Runs.len rfl sl37) ?_; rfl; rfl) | (refine WL.pass ?_ ?_ ?_; rfl; rfl))
  refine WL.val rfl rfl (Runs.add rfl rfl (r := ((1 : Nat) : Int)) (wI (by omega) (by omega) (by omega))) ?_
  repeat (first | (refine WL.val ?_ ?_ (Runs.move rfl) ?_; rfl; rfl) | (refine WL.val ?_ ?_ (Runs.assign rfl) ?_; rfl; rfl) | (refine WL.val ?_ ?_ (Runs.extract rfl rfl) ?_; rfl; rfl) | (refine WL.val ?_ ?_ (Runs.nilCheck rfl) ?_; rfl; rfl) | (refine WL.val ?_ ?_ (Runs.pickT rfl rfl) ?_; rfl; rfl) | (refine WL.val ?_ ?_ (Runs.pickF rfl rfl) ?_; rfl; rfl) | (refine WL.val ?_ ?_ (Runs.len rfl sl22) ?_; rfl; rfl) | (refine WL.val ?_ ?_ (Runs.len rfl sl27) ?_; rfl; rfl) | (refine WL.val ?_ ?_ (Runs.len rfl sl37) ?_; rfl; rfl) | (refine WL.pass ?_ ?_ ?_; rfl; rfl))
  refine WL.nil ?_
  repeat (first | refine AtExit.thenRet ?_ | refine AtExit.thenExit ?_ | refine AtExit.blockRet ?_ | refine AtExit.blockEnd ?_ | refine AtExit.blockExit ?_ | (refine AtExit.blockPast ?_ ?_; rfl))
  refine AtExit.go ?_
  refine WC.block ?_
  refine WC.loop (α := Unit) (fun _ => [(2, .int .i64 (n : Int)), (6, .int .i64 ((1 : Nat) : Int))]) (fun _ w' => Below w.heap.size w w') (fun _ => 0) () (by repeat (first | exact Sub.nil _ | refine Sub.cons rfl ?_)) (below_new w _ (Nat.le_refl _)) ?_
  rintro _ w' hB
  refine WC.seq ?_
  refine WC.seq (WC.region ?_)
  repeat (first | (refine WL.val ?_ ?_ (Runs.move rfl) ?_; rfl; rfl) | (refine WL.val ?_ ?_ (Runs.assign rfl) ?_; rfl; rfl) | (refine WL.val ?_ ?_ (Runs.extract rfl rfl) ?_; rfl; rfl) | (refine WL.val ?_ ?_ (Runs.nilCheck rfl) ?_; rfl; rfl) | (refine WL.val ?_ ?_ (Runs.pickT rfl rfl) ?_; rfl; rfl) | (refine WL.val ?_ ?_ (Runs.pickF rfl rfl) ?_; rfl; rfl) | (refine WL.val ?_ ?_ (Runs.len rfl sl22) ?_; rfl; rfl) | (refine WL.val ?_ ?_ (Runs.len rfl sl27) ?_; rfl; rfl) | (refine WL.val ?_ ?_ (Runs.len rfl sl37) ?_; rfl; rfl) | (refine WL.pass ?_ ?_ ?_; rfl; rfl))
  refine WL.val rfl rfl (Runs.lss rfl rfl (decge (show ¬ 1 < n by omega))) ?_
  refine WL.nil ?_
  repeat (first | refine AtExit.thenRet ?_ | refine AtExit.thenExit ?_ | refine AtExit.blockRet ?_ | refine AtExit.blockEnd ?_ | refine AtExit.blockExit ?_ | (refine AtExit.blockPast ?_ ?_; rfl))
  refine AtExit.go ?_
  refine WC.condF rfl ?_
  refine WC.exit ?_
  repeat (first | refine AtExit.thenRet ?_ | refine AtExit.thenExit ?_ | refine AtExit.blockRet ?_ | refine AtExit.blockEnd ?_ | refine AtExit.blockExit ?_ | (refine AtExit.blockPast ?_ ?_; rfl))
  exact post0e rfl ⟨rfl, hB⟩

theorem stable_tiny (x y : Value) (n : Nat) (hn : n ≤ 1) (w : World) :
    Calls Yba.prog 18 #[.agg #[x, y], .int .i64 (n : Int)] w fun e w' => e = .returned (.tuple #[]) ∧ Below w.heap.size w w' := by
  refine calls_of Yba.func18 rfl Yba.ntmps18 rfl ?_
  refine WC.seq (WC.region ?_)
  refine WL.val rfl rfl (Runs.box rfl) ?_
  refine WL.nil ?_
  repeat (first | refine AtExit.thenRet ?_ | refine AtExit.thenExit ?_ | refine AtExit.blockRet ?_ | refine AtExit.blockEnd ?_ | refine AtExit.blockExit ?_ | (refine AtExit.blockPast ?_ ?_; rfl))
  refine AtExit.go ?_
  have hbox := heap_new w (.cells (Value.agg #[x, y]).cells 57)
  have hB := below_new w (.cells (Value.agg #[x, y]).cells 57) (Nat.le_refl _)
  generalize w.alloc _ = w1 at hbox hB ⊢
  generalize hD : w.heap.size = D at hbox hB ⊢
  refine WC.seq (WC.region ?_)
  repeat (first | (refine WL.val ?_ ?_ (Runs.move rfl) ?_; rfl; rfl) | (refine WL.val ?_ ?_ (Runs.assign rfl) ?_; rfl; rfl) | (refine WL.val ?_ ?_ (Runs.extract rfl rfl) ?_; rfl; rfl) | (refine WL.val ?_ ?_ (Runs.nilCheck rfl) ?_; rfl; rfl) | (refine WL.val ?_ ?_ (Runs.pickT rfl rfl) ?_; rfl; rfl) | (refine WL.val ?_ ?_ (Runs.pickF rfl rfl) ?_; rfl; rfl) | (refine WL.val ?_ ?_ (Runs.len rfl sl22) ?_; rfl; rfl) | (refine WL.val ?_ ?_ (Runs.len rfl sl27) ?_; rfl; rfl) | (refine WL.val ?_ ?_ (Runs.len rfl sl37) ?_; rfl; rfl) | (refine WL.pass ?_ ?_ ?_; rfl; rfl))
  refine WL.nil ?_
  repeat (first | refine AtExit.thenRet ?_ | refine AtExit.thenExit ?_ | refine AtExit.blockRet ?_ | refine AtExit.blockEnd ?_ | refine AtExit.blockExit ?_ | (refine AtExit.blockPast ?_ ?_; rfl))
  refine AtExit.go ?_
  refine WC.seq (WC.region ?_)
  repeat (first | (refine WL.val ?_ ?_ (Runs.move rfl) ?_; rfl; rfl) | (refine WL.val ?_ ?_ (Runs.assign rfl) ?_; rfl; rfl) | (refine WL.val ?_ ?_ (Runs.extract rfl rfl) ?_; rfl; rfl) | (refine WL.val ?_ ?_ (Runs.nilCheck rfl) ?_; rfl; rfl) | (refine WL.val ?_ ?_ (Runs.pickT rfl rfl) ?_; rfl; rfl) | (refine WL.val ?_ ?_ (Runs.pickF rfl rfl) ?_; rfl; rfl) | (refine WL.val ?_ ?_ (Runs.len rfl sl22) ?_; rfl; rfl) | (refine WL.val ?_ ?_ (Runs.len rfl sl27) ?_; rfl; rfl) | (refine WL.val ?_ ?_ (Runs.len rfl sl37) ?_; rfl; rfl) | (refine WL.pass ?_ ?_ ?_; rfl; rfl))
  refine WL.nil ?_
  repeat (first | refine AtExit.thenRet ?_ | refine AtExit.thenExit ?_ | refine AtExit.blockRet ?_ | refine AtExit.blockEnd ?_ | refine AtExit.blockExit ?_ | (refine AtExit.blockPast ?_ ?_; rfl))
  refine AtExit.go ?_
  refine WC.cut (α := Unit) (fun _ => [(1, .int .i64 (n : Int)), (2, .pointer (some ⟨D, 0, none⟩)), (4, .int .i64 ((20 : Nat) : Int)), (5, .int .i64 0)]) (fun _ w' => w' = w1) ?_ ?_
  · refine WC.block ?_
    refine WC.loop (α := Unit) (fun _ => [(1, .int .i64 (n : Int)), (2, .pointer (some ⟨D, 0, none⟩)), (4, .int .i64 ((20 : Nat) : Int)), (5, .int .i64 0), (6, .int .i64 ((20 : Nat) : Int))]) (fun _ w' => w' = w1) (fun _ => 0) () (by repeat (first | exact Sub.nil _ | refine Sub.cons rfl ?_)) rfl ?_
    rintro _ w' rfl
    refine WC.seq ?_
    refine WC.seq (WC.region ?_)
    repeat (first | (refine WL.val ?_ ?_ (Runs.move rfl) ?_; rfl; rfl) | (refine WL.val ?_ ?_ (Runs.assign rfl) ?_; rfl; rfl) | (refine WL.val ?_ ?_ (Runs.extract rfl rfl) ?_; rfl; rfl) | (refine WL.val ?_ ?_ (Runs.nilCheck rfl) ?_; rfl; rfl) | (refine WL.val ?_ ?_ (Runs.pickT rfl rfl) ?_; rfl; rfl) | (refine WL.val ?_ ?_ (Runs.pickF rfl rfl) ?_; rfl; rfl) | (refine WL.val ?_ ?_ (Runs.len rfl sl22) ?_; rfl; rfl) | (refine WL.val ?_ ?_ (Runs.len rfl sl27) ?_; rfl; rfl) | (refine WL.val ?_ ?_ (Runs.len rfl sl37) ?_; rfl; rfl) | (refine WL.pass ?_ ?_ ?_; rfl; rfl))
    refine WL.val rfl rfl (Runs.leq rfl rfl (decgt (show ¬ 20 ≤ n by omega))) ?_
    refine WL.nil ?_
    repeat (first | refine AtExit.thenRet ?_ | refine AtExit.thenExit ?_ | refine AtExit.blockRet ?_ | refine AtExit.blockEnd ?_ | refine AtExit.blockExit ?_ | (refine AtExit.blockPast ?_ ?_; rfl))
    refine AtExit.go ?_
    refine WC.condF rfl ?_
    refine WC.exit ?_
    repeat (first | refine AtExit.thenRet ?_ | refine AtExit.thenExit ?_ | refine AtExit.blockRet ?_ | refine AtExit.blockEnd ?_ | refine AtExit.blockExit ?_ | (refine AtExit.blockPast ?_ ?_; rfl))
    refine AtExit.inv fun a ha => ⟨(), ha.sub (by repeat (first | exact Sub.nil _ | refine Sub.cons rfl ?_)), rfl⟩
  rintro _ w2 rfl
  refine WC.seq (WC.region ?_)
  refine WL.val rfl rfl (Runs.loadAgg (cs := [x, y]) rfl na57 sz57 (fun j v hv => by rw [cell_of hbox, Nat.zero_add]; simpa [Value.cells] using hv)) ?_
  repeat (first | (refine WL.val ?_ ?_ (Runs.move rfl) ?_; rfl; rfl) | (refine WL.val ?_ ?_ (Runs.assign rfl) ?_; rfl; rfl) | (refine WL.val ?_ ?_ (Runs.extract rfl rfl) ?_; rfl; rfl) | (refine WL.val ?_ ?_ (Runs.nilCheck rfl) ?_; rfl; rfl) | (refine WL.val ?_ ?_ (Runs.pickT rfl rfl) ?_; rfl; rfl) | (refine WL.val ?_ ?_ (Runs.pickF rfl rfl) ?_; rfl; rfl) | (refine WL.val ?_ ?_ (Runs.len rfl sl22) ?_; rfl; rfl) | (refine WL.val ?_ ?_ (Runs.len rfl sl27) ?_; rfl; rfl) | (refine WL.val ?_ ?_ (Runs.len rfl sl37) ?_; rfl; rfl) | (refine WL.pass ?_ ?_ ?_; rfl; rfl))
  refine WL.call rfl rfl (RunsC.call rfl en29) (insertion_tiny x y n hn w2) ?_
  rintro e w3 ⟨rfl, hB3⟩
  refine ⟨_, rfl, ?_⟩
  refine WL.nil ?_
  repeat (first | refine AtExit.thenRet ?_ | refine AtExit.thenExit ?_ | refine AtExit.blockRet ?_ | refine AtExit.blockEnd ?_ | refine AtExit.blockExit ?_ | (refine AtExit.blockPast ?_ ?_; rfl))
  refine AtExit.go ?_
  refine WC.block ?_
  refine WC.loop (α := Unit) (fun _ => [(1, .int .i64 (n : Int)), (4, .int .i64 ((20 : Nat) : Int))]) (fun _ w' => w' = w3) (fun _ => 0) () (by repeat (first | exact Sub.nil _ | refine Sub.cons rfl ?_)) rfl ?_
  rintro _ w' rfl
  refine WC.seq ?_
  refine WC.seq (WC.region ?_)
  repeat (first | (refine WL.val ?_ ?_ (Runs.move rfl) ?_; rfl; rfl) | (refine WL.val ?_ ?_ (Runs.assign rfl) ?_; rfl; rfl) | (refine WL.val ?_ ?_ (Runs.extract rfl rfl) ?_; rfl; rfl) | (refine WL.val ?_ ?_ (Runs.nilCheck rfl) ?_; rfl; rfl) | (refine WL.val ?_ ?_ (Runs.pickT rfl rfl) ?_; rfl; rfl) | (refine WL.val ?_ ?_ (Runs.pickF rfl rfl) ?_; rfl; rfl) | (refine WL.val ?_ ?_ (Runs.len rfl sl22) ?_; rfl; rfl) | (refine WL.val ?_ ?_ (Runs.len rfl sl27) ?_; rfl; rfl) | (refine WL.val ?_ ?_ (Runs.len rfl sl37) ?_; rfl; rfl) | (refine WL.pass ?_ ?_ ?_; rfl; rfl))
  refine WL.val rfl rfl (Runs.lss rfl rfl (decge (show ¬ 20 < n by omega))) ?_
  refine WL.nil ?_
  repeat (first | refine AtExit.thenRet ?_ | refine AtExit.thenExit ?_ | refine AtExit.blockRet ?_ | refine AtExit.blockEnd ?_ | refine AtExit.blockExit ?_ | (refine AtExit.blockPast ?_ ?_; rfl))
  refine AtExit.go ?_
  refine WC.condF rfl ?_
  refine WC.exit ?_
  repeat (first | refine AtExit.thenRet ?_ | refine AtExit.thenExit ?_ | refine AtExit.blockRet ?_ | refine AtExit.blockEnd ?_ | refine AtExit.blockExit ?_ | (refine AtExit.blockPast ?_ ?_; rfl))
  exact post0e rfl ⟨rfl, hB.trans (hB3.mono (by have := hB.size; omega))⟩

theorem desc27 : (Yba.prog.info? 27).map (·.desc) = some (.slice 36) := by kernel_rfl
theorem look36 : (Yba.prog.info? 36).map (fun i => (i.hasPointers, i.bytes)) = some (true, 40) := by kernel_rfl
theorem kind36 (w : World) : (Extern.Rtype.kind 36).run Yba.prog w = .ok 25 w := by kernel_rfl
theorem packed27 : Yba.prog.packed 27 = false := by kernel_rfl
theorem handle27 : typeHandle Yba.prog 27 = .pointer (some ⟨0, 27, none⟩) := by kernel_rfl

theorem extern_of {P : Program} {f : FuncId} {fn : Func} {e : Array Value → Sem Value} {args : Array Value} {v : Value} {w w' : World} (hf : P.funcs[f]? = some fn) (hname : (fn.name == "runtime.NumGoroutine") = false)
    (hb : fn.body.isNone = true) (hn : Extern.findNext fn = none) (hr : (e args).run P w = .ok v w') (he : Extern.find fn = some e) : (callFunc f args).run P w = .ok (.value v) w' := by
  rw [run_callFunc_extern hf hname hb hn he, hr]; rfl

/-- Which function Swapper hands back. -/
theorem swapper_run (p : Option Addr) (n c : Nat) : ∃ (f : Nat) (B : Array Value), (2 ≤ n → f = 28 ∧ B = #[.slice p n c, .pointer (some ⟨0, 36, none⟩)]) ∧
    ∀ w, (callFunc 17 (#[] ++ [Value.iface 27 (.slice p n c)].toArray ++ #[])).run Yba.prog w = .ok (.value (.func (.func f) #[] B)) w := by
  obtain ⟨i, hi, hd⟩ : ∃ i, Yba.prog.info? 27 = some i ∧ i.desc = .slice 36 := by
    have := desc27
    cases h : Yba.prog.info? 27 with
    | none => rw [h] at this; cases this
    | some i => rw [h] at this; exact ⟨i, rfl, by simpa using this⟩
  obtain ⟨ie, hie, hp, hby⟩ : ∃ ie, Yba.prog.info? 36 = some ie ∧ ie.hasPointers = true ∧ ie.bytes = 40 := by
    have := look36
    cases h : Yba.prog.info? 36 with
    | none => rw [h] at this; cases this
    | some i => rw [h] at this; exact ⟨i, rfl, by simpa using this⟩
  have run : ∀ f, Yba.prog.funcs.findIdx? _ = some f → ∀ w, _ := fun f hf w => run_swapper_slice (P := Yba.prog) 27 36 i ie hi hd hie 25 kind36 p n c f hf w
  by_cases h0 : n = 0
  · have hK : swapperK n ie 25 = 1 := by simp [swapperK, h0]
    refine ⟨20, #[], fun h => by omega, fun w => ?_⟩
    have hr := run 20 (by rw [hK]; kernel_rfl) w
    rw [hK, if_pos (by decide)] at hr
    exact extern_of Yba.func17 (by kernel_rfl) (by kernel_rfl) (by kernel_rfl) hr (by kernel_rfl)
  · by_cases h1 : n = 1
    · have hK : swapperK n ie 25 = 2 := by simp [swapperK, h1]
      refine ⟨21, #[], fun h => by omega, fun w => ?_⟩
      have hr := run 21 (by rw [hK]; kernel_rfl) w
      rw [hK, if_pos (by decide)] at hr
      exact extern_of Yba.func17 (by kernel_rfl) (by kernel_rfl) (by kernel_rfl) hr (by kernel_rfl)
    · have hK : swapperK n ie 25 = 9 := by simp [swapperK, h0, h1, hp, hby]
      refine ⟨28, #[.slice p n c, .pointer (some ⟨0, 36, none⟩)], fun h => ⟨rfl, rfl⟩, fun w => ?_⟩
      have hr := run 28 (by rw [hK]; kernel_rfl) w
      rw [hK, if_neg (by decide), handle36] at hr
      exact extern_of Yba.func17 (by kernel_rfl) (by kernel_rfl) (by kernel_rfl) hr (by kernel_rfl)

theorem valueOf_run (p : Option Addr) (n c : Nat) (w : World) : (callFunc 16 (#[] ++ [Value.iface 27 (.slice p n c)].toArray ++ #[])).run Yba.prog w =
    .ok (.value (.agg #[.pointer (some ⟨0, 27, none⟩), .pointer (some ⟨w.heap.size, 0, none⟩), .int .u64 151])) (w.alloc (.cells #[.slice p n c] 27)) := by
  obtain ⟨i, hi, hd⟩ : ∃ i, Yba.prog.info? 27 = some i ∧ i.desc = .slice 36 := by
    have := desc27
    cases h : Yba.prog.info? 27 with
    | none => rw [h] at this; cases this
    | some i => rw [h] at this; exact ⟨i, rfl, by simpa using this⟩
  have hv := run_valueOf_slice (P := Yba.prog) 27 36 i hi hd p n c w
  rw [run_callFunc_extern Yba.func16 (by kernel_rfl) (by kernel_rfl) (by kernel_rfl) (e := fun args => Extern.ReflectliteValue.unpack (args.getD 0 (.tuple #[]))) (by kernel_rfl),
    show Sem.run Yba.prog ((fun args : Array Value => Extern.ReflectliteValue.unpack (args.getD 0 (.tuple #[]))) (#[] ++ [Value.iface 27 (.slice p n c)].toArray ++ #[])) w = _ from hv, handle27]
  rfl
theorem valueLen_run (p : Option Addr) (n c : Nat) (a : Addr) (w : World) (ha : w.cell? a = some (.slice p n c)) :
    (callFunc 19 (#[] ++ [Value.agg #[.pointer (some ⟨0, 27, none⟩), .pointer (some a), .int .u64 151]].toArray ++ #[])).run Yba.prog w = .ok (.value (.int .i64 n)) w := by
  obtain ⟨i, hi, hd⟩ : ∃ i, Yba.prog.info? 27 = some i ∧ i.desc = .slice 36 := by
    have := desc27
    cases h : Yba.prog.info? 27 with
    | none => rw [h] at this; cases this
    | some i => rw [h] at this; exact ⟨i, rfl, by simpa using this⟩
  have hl := run_valueLen_slice (P := Yba.prog) 27 36 i hi hd packed27 a p n c w ha
  rw [handle27] at hl
  rw [run_callFunc_extern Yba.func19 (by kernel_rfl) (by kernel_rfl) (by kernel_rfl) (e := Extern.ReflectliteValue.method (Extern.ReflectliteValue.valueError "reflectlite.Value.Len" 0) Extern.ReflectliteValue.len) (by kernel_rfl)]
  rw [show (#[] ++ [Value.agg #[.pointer (some ⟨0, 27, none⟩), .pointer (some a), .int .u64 151]].toArray ++ #[]) = #[Value.agg #[.pointer (some ⟨0, 27, none⟩), .pointer (some a), .int .u64 151]] from rfl, hl]
  rfl

theorem slice_of (p : Option Addr) (n c f q : Nat) (B : Array Value) (w : World) (R : World → Prop) (hS : ∀ w, (callFunc 17 (#[] ++ [Value.iface 27 (.slice p n c)].toArray ++ #[])).run Yba.prog w = .ok (.value (.func (.func f) #[] B)) w)
    (hp : ∀ w', Below w.heap.size w w' → Calls Yba.prog 18 #[.agg #[lv q, .func (.func f) #[] B], .int .i64 (n : Int)] w' fun e w2 => e = .returned (.tuple #[]) ∧ R w2) :
    Calls Yba.prog 8 #[.iface 27 (.slice p n c), lv q] w fun e w' => e = .returned (.tuple #[]) ∧ R w' := by
  refine calls_of Yba.func8 rfl Yba.ntmps8 rfl ?_
  refine WC.seq (WC.region ?_)
  repeat (first | (refine WL.val ?_ ?_ (Runs.move rfl) ?_; rfl; rfl) | (refine WL.val ?_ ?_ (Runs.assign rfl) ?_; rfl; rfl) | (refine WL.val ?_ ?_ (Runs.extract rfl rfl) ?_; rfl; rfl) | (refine WL.val ?_ ?_ (Runs.nilCheck rfl) ?_; rfl; rfl) | (refine WL.val ?_ ?_ (Runs.pickT rfl rfl) ?_; rfl; rfl) | (refine WL.val ?_ ?_ (Runs.pickF rfl rfl) ?_; rfl; rfl) | (refine WL.val ?_ ?_ (Runs.len rfl sl22) ?_; rfl; rfl) | (refine WL.val ?_ ?_ (Runs.len rfl sl27) ?_; rfl; rfl) | (refine WL.val ?_ ?_ (Runs.len rfl sl37) ?_; rfl; rfl) | (refine WL.pass ?_ ?_ ?_; rfl; rfl))
  refine WL.val rfl rfl (Runs.callX rfl rfl (valueOf_run p n c w)) ?_
  refine WL.val rfl rfl (Runs.alloc in51) ?_
  obtain ⟨q1, q2, q3⟩ := two_new w (.cells #[.slice p n c] 27) (.cells (Value.agg #[.pointer none, .pointer none, .int .u64 0]).cells 51)
  rw [size_new]
  generalize (w.alloc _).alloc _ = w1 at q1 q2 q3 ⊢
  refine WL.skip rfl (RunsS.storeRow rfl rfl (by simp [Value.oneCell']) sz51 q2 rfl) ?_
  refine WL.nil ?_
  repeat (first | refine AtExit.thenRet ?_ | refine AtExit.thenExit ?_ | refine AtExit.blockRet ?_ | refine AtExit.blockEnd ?_ | refine AtExit.blockExit ?_ | (refine AtExit.blockPast ?_ ?_; rfl))
  refine AtExit.go ?_
  have r1 := setRow_heap _ _ _ #[.pointer (some ⟨0, 27, none⟩), .pointer (some ⟨w.heap.size, 0, none⟩), .int .u64 151] _ _ q2
  have r2 : (w1.setRow (w.heap.size + 1) #[.pointer (some ⟨0, 27, none⟩), .pointer (some ⟨w.heap.size, 0, none⟩), .int .u64 151]).heap[w.heap.size]? = some (.cells #[.slice p n c] 27) := by
    rw [(below_setRow' w1 (w.heap.size + 1) _ (Nat.le_refl _)).block _ (by omega)]; exact q1
  have r3 := q3.trans (below_setRow' w1 (w.heap.size + 1) #[.pointer (some ⟨0, 27, none⟩), .pointer (some ⟨w.heap.size, 0, none⟩), .int .u64 151] (B := w.heap.size) (by omega))
  generalize w1.setRow _ _ = w2 at r1 r2 r3 ⊢
  refine WC.seq (WC.region ?_)
  repeat (first | (refine WL.val ?_ ?_ (Runs.move rfl) ?_; rfl; rfl) | (refine WL.val ?_ ?_ (Runs.assign rfl) ?_; rfl; rfl) | (refine WL.val ?_ ?_ (Runs.extract rfl rfl) ?_; rfl; rfl) | (refine WL.val ?_ ?_ (Runs.nilCheck rfl) ?_; rfl; rfl) | (refine WL.val ?_ ?_ (Runs.pickT rfl rfl) ?_; rfl; rfl) | (refine WL.val ?_ ?_ (Runs.pickF rfl rfl) ?_; rfl; rfl) | (refine WL.val ?_ ?_ (Runs.len rfl sl22) ?_; rfl; rfl) | (refine WL.val ?_ ?_ (Runs.len rfl sl27) ?_; rfl; rfl) | (refine WL.val ?_ ?_ (Runs.len rfl sl37) ?_; rfl; rfl) | (refine WL.pass ?_ ?_ ?_; rfl; rfl))
  refine WL.val rfl rfl (Runs.callX rfl rfl (hS w2)) ?_
  repeat (first | (refine WL.val ?_ ?_ (Runs.move rfl) ?_; rfl; rfl) | (refine WL.val ?_ ?_ (Runs.assign rfl) ?_; rfl; rfl) | (refine WL.val ?_ ?_ (Runs.extract rfl rfl) ?_; rfl; rfl) | (refine WL.val ?_ ?_ (Runs.nilCheck rfl) ?_; rfl; rfl) | (refine WL.val ?_ ?_ (Runs.pickT rfl rfl) ?_; rfl; rfl) | (refine WL.val ?_ ?_ (Runs.pickF rfl rfl) ?_; rfl; rfl) | (refine WL.val ?_ ?_ (Runs.len rfl sl22) ?_; rfl; rfl) | (refine WL.val ?_ ?_ (Runs.len rfl sl27) ?_; rfl; rfl) | (refine WL.val ?_ ?_ (Runs.len rfl sl37) ?_; rfl; rfl) | (refine WL.pass ?_ ?_ ?_; rfl; rfl))
  refine WL.nil ?_
  repeat (first | refine AtExit.thenRet ?_ | refine AtExit.thenExit ?_ | refine AtExit.blockRet ?_ | refine AtExit.blockEnd ?_ | refine AtExit.blockExit ?_ | (refine AtExit.blockPast ?_ ?_; rfl))
  refine AtExit.go ?_
  refine WC.region ?_
  repeat (first | (refine WL.val ?_ ?_ (Runs.move rfl) ?_; rfl; rfl) | (refine WL.val ?_ ?_ (Runs.assign rfl) ?_; rfl; rfl) | (refine WL.val ?_ ?_ (Runs.extract rfl rfl) ?_; rfl; rfl) | (refine WL.val ?_ ?_ (Runs.nilCheck rfl) ?_; rfl; rfl) | (refine WL.val ?_ ?_ (Runs.pickT rfl rfl) ?_; rfl; rfl) | (refine WL.val ?_ ?_ (Runs.pickF rfl rfl) ?_; rfl; rfl) | (refine WL.val ?_ ?_ (Runs.len rfl sl22) ?_; rfl; rfl) | (refine WL.val ?_ ?_ (Runs.len rfl sl27) ?_; rfl; rfl) | (refine WL.val ?_ ?_ (Runs.len rfl sl37) ?_; rfl; rfl) | (refine WL.pass ?_ ?_ ?_; rfl; rfl))
  refine WL.val rfl rfl (Runs.build (cs := #[lv q, .func (.func f) #[] B]) rfl (by kernel_rfl)) ?_
  refine WL.val rfl rfl (Runs.loadAgg (cs := [.pointer (some ⟨0, 27, none⟩), .pointer (some ⟨w.heap.size, 0, none⟩), .int .u64 151]) rfl na51 sz51 (fun j v hv => by rw [cell_of r1, Nat.zero_add]; simpa using hv)) ?_
  refine WL.val rfl rfl (Runs.callX rfl rfl (valueLen_run p n c ⟨w.heap.size, 0, none⟩ w2 (by rw [cell_of r2]; rfl))) ?_
  refine WL.call rfl rfl (RunsC.call rfl en18) (hp w2 r3) ?_
  rintro e w3 ⟨rfl, hR⟩
  refine ⟨_, rfl, ?_⟩
  refine WL.nil ?_
  exact post0e rfl ⟨rfl, hR⟩

theorem slice_any {g q n cap : Nat} (h2 : 2 ≤ n) (hn : n ≤ 4096) (l : List Rc) (w : World) (hE : Env g q n cap w l) (hl : l.Pairwise lo) :
    Calls Yba.prog 8 #[.iface 27 (.slice (some ⟨g, 0, none⟩) n cap), lv q] w fun e w' => e = .returned (.tuple #[]) ∧ (∃ C, Env g q n cap w' C ∧ C.Perm l ∧ C.Pairwise lx) ∧ w.grownBy w' (some g) := by
  obtain ⟨f, B, h, hS⟩ := swapper_run (some ⟨g, 0, none⟩) n cap
  obtain ⟨rfl, rfl⟩ := h h2
  refine slice_of _ n cap 28 q _ w (fun w' => (∃ C, Env g q n cap w' C ∧ C.Perm l ∧ C.Pairwise lx) ∧ w.grownBy w' (some g)) hS fun w' hB => ?_
  exact (stable_any hn l w' (hE.below hB) hl).mono fun e w2 ⟨he, hC, hg⟩ => ⟨he, hC, World.grownBy.trans' (grown_of_below hB _) hg⟩
theorem slice_tiny (p : Option Addr) (n c q : Nat) (hn : n ≤ 1) (w : World) :
    Calls Yba.prog 8 #[.iface 27 (.slice p n c), lv q] w fun e w' => e = .returned (.tuple #[]) ∧ Below w.heap.size w w' := by
  obtain ⟨f, B, _, hS⟩ := swapper_run p n c
  refine slice_of p n c f q B w (fun w' => Below w.heap.size w w') hS fun w' hB => ?_
  exact (stable_tiny _ _ n hn w').mono fun e w2 ⟨he, h2⟩ => ⟨he, Below.up hB h2⟩
end Go.Proofs.Ybulkgfau
