/- The row of LawS9086AWhole. -/
import Derived.Test.YbulkgfdmLaw
import Derived.Test.YbulkgfdmRows
import Derived.ProofKit
import Derived.OpenShut
import Derived.Stop.Joined
import Derived.SizedLaws
import Derived.Deep.Slices
import Derived.Deep.Strs
namespace Go.Proofs.Ybulkgfdm
open Go.ChangeShapes Go.WideShapes Go.ChangeAt Go.RowKit Go.Deep

theorem own : ownKnob Yba.prog.godebug = Option.none := by kernel_rfl
theorem laidOut : laidOutB Yba.prog = true := by kernel_rfl
theorem ce41 : Yba.prog.cellsOf 41 = 3 := by kernel_rfl
theorem ce63 : Yba.prog.cellsOf 63 = 3 := by kernel_rfl
theorem ce2 : Yba.prog.cellsOf 2 = 1 := by kernel_rfl
theorem ce5 : Yba.prog.cellsOf 5 = 1 := by kernel_rfl
theorem ce9 : Yba.prog.cellsOf 9 = 1 := by kernel_rfl

theorem block_lt {W : World} {a : Addr} {v : Value} (h : W.cell? a = some v) : a.block < W.heap.size ∧ a.spot = Option.none := by
  unfold World.cell? at h
  split at h
  · rename_i hh
    refine ⟨Fr.lt_of_heap hh, ?_⟩
    cases hs : a.spot with
    | none => rfl
    | some x => rw [hs] at h; simp at h
  · cases h
theorem plain_of {W : World} {a : Addr} {v : Value} (h : W.cell? a = some v) : a = ⟨a.block, a.off, Option.none⟩ := by
  have := (block_lt h).2
  cases a; simp_all

theorem three_of : ∀ (cs : List Value), cs.length = 3 → ∃ v0 v1 v2, cs = [v0, v1, v2]
  | [v0, v1, v2], _ => ⟨v0, v1, v2, rfl⟩

/-- The steps, opened. -/
theorem open_ops {H : Type} {enc : TypeId × Value → H} {W : World} {v : Value} {d : DataW H} {p : List MemPlace} (hd : DataW.Trod enc Yba.prog W 0 (fun _ => true) true 22 v d p) (hval : ∃ a len cap, v = .slice a len cap) :
    ∃ (A : Option Addr) (m C : Nat) (kd ky : Nat → Nat) (dd : Nat → Int), v = .slice A m C ∧ OpsAt W W.heap.size A m kd ky dd ∧ ∀ i, i < m → kd i < 256 ∧ ky i < 256 := by
  obtain ⟨a0, l0, c0, rfl⟩ := hval
  obtain ⟨fuel, hf⟩ := hd
  rcases open_slice Yba.underlying22 hf with ⟨hcs, _⟩ | ⟨a, len, cap, m, n, D, Pl, hcs, hb, hl, hm, hmm, _, hx⟩
  · simp [Value.cells] at hcs
    obtain ⟨rfl, rfl, rfl⟩ := hcs
    exact ⟨_, _, _, fun _ => 0, fun _ => 0, fun _ => 0, rfl, fun i hi => absurd hi (Nat.not_lt_zero _), fun i hi => absurd hi (Nat.not_lt_zero _)⟩
  · simp [Value.cells] at hcs
    obtain ⟨rfl, rfl, rfl⟩ := hcs
    have hlm : l0 ≤ m := by rw [hmm]; split <;> omega
    have each : ∀ i, i < l0 → ∃ q : Nat × Nat × Int, W.cell? (a.add (i * 3)) = some (.int .u8 (q.1 : Int)) ∧ W.cell? (a.add (i * 3 + 1)) = some (.int .u8 (q.2.1 : Int)) ∧ W.cell? (a.add (i * 3 + 2)) = some (.int .i64 q.2.2) ∧
        q.1 < 256 ∧ q.2.1 < 256 := by
      intro i hi
      obtain ⟨cs', h1, h2⟩ := hx i (by omega)
      rw [ce41] at h1
      obtain ⟨_, hlen, hcell⟩ := World.cells?_some h1
      obtain ⟨y0, y1, y2, k, _, _, u0, u1, u2⟩ := trod_struct3 Yba.underlying41 h2
      obtain ⟨v0, v1, v2, rfl⟩ := three_of cs' hlen
      simp only [ce2, ce5, List.drop, List.take] at u0 u1 u2
      obtain ⟨s, e0, _, w0⟩ := DataW.trod_int Yba.underlying5 u0
      obtain ⟨q, e1, _, w1⟩ := DataW.trod_int Yba.underlying5 u1
      obtain ⟨z, e2, _, _⟩ := DataW.trod_int Yba.underlying2 u2
      simp only [List.cons.injEq, and_true] at e0 e1 e2
      subst e0; subst e1; subst e2
      have c0 := hcell 0 (by omega)
      have c1 := hcell 1 (by omega)
      have c2 := hcell 2 (by omega)
      rw [add_add] at c0 c1 c2
      have b0 := bounds_u8 w0
      have b1 := bounds_u8 w1
      exact ⟨(s.toNat, q.toNat, z), by rw [Int.toNat_of_nonneg b0.1]; simpa using c0, by rw [Int.toNat_of_nonneg b1.1]; simpa using c1, by simpa using c2, (by omega : s.toNat < 256), (by omega : q.toNat < 256)⟩
    obtain ⟨q, hq⟩ := choose_lt each
    refine ⟨_, _, _, fun i => (q i).1, fun i => (q i).2.1, fun i => (q i).2.2, rfl, fun i hi => ?_, fun i hi => ⟨(hq i hi).2.2.2.1, (hq i hi).2.2.2.2⟩⟩
    obtain ⟨g0, g1, g2, _⟩ := hq i hi
    have z0 := (hq 0 (by omega)).1
    have ha0 : a.add (0 * 3) = a := by simp [Addr.add]
    rw [ha0] at z0
    have hpa := plain_of z0
    rw [hpa, Fr.add_mk] at g0 g1 g2
    exact ⟨a.block, a.off, by rw [← hpa], (block_lt z0).1, by simpa using g0, by rw [Nat.add_assoc]; exact g1, by rw [Nat.add_assoc]; exact g2⟩

/-- The sessions, opened. -/
theorem open_sess {H : Type} {enc : TypeId × Value → H} {W : World} {v : Value} {d : DataW H} {p : List MemPlace} (hd : DataW.Trod enc Yba.prog W 0 (fun _ => true) true 23 v d p) (hval : ∃ a len cap, v = .slice a len cap) :
    ∃ (A : Option Addr) (m C : Nat) (sa sp : Nat → Int) (sd : Nat → ByteArray), v = .slice A m C ∧ SessAt W W.heap.size A m sa sp sd := by
  obtain ⟨a0, l0, c0, rfl⟩ := hval
  obtain ⟨fuel, hf⟩ := hd
  rcases open_slice Yba.underlying23 hf with ⟨hcs, _⟩ | ⟨a, len, cap, m, n, D, Pl, hcs, hb, hl, hm, hmm, _, hx⟩
  · simp [Value.cells] at hcs
    obtain ⟨rfl, rfl, rfl⟩ := hcs
    exact ⟨_, _, _, fun _ => 0, fun _ => 0, fun _ => ⟨#[]⟩, rfl, fun i hi => absurd hi (Nat.not_lt_zero _)⟩
  · simp [Value.cells] at hcs
    obtain ⟨rfl, rfl, rfl⟩ := hcs
    have hlm : l0 ≤ m := by rw [hmm]; split <;> omega
    have each : ∀ i, i < l0 → ∃ q : Int × Int × ByteArray, W.cell? (a.add (i * 3)) = some (.int .u8 q.1) ∧ W.cell? (a.add (i * 3 + 1)) = some (.int .u8 q.2.1) ∧ W.cell? (a.add (i * 3 + 2)) = some (.string q.2.2) := by
      intro i hi
      obtain ⟨cs', h1, h2⟩ := hx i (by omega)
      rw [ce63] at h1
      obtain ⟨_, hlen, hcell⟩ := World.cells?_some h1
      obtain ⟨y0, y1, y2, k, _, _, u0, u1, u2⟩ := trod_struct3 Yba.underlying63 h2
      obtain ⟨v0, v1, v2, rfl⟩ := three_of cs' hlen
      simp only [ce5, ce9, List.drop, List.take] at u0 u1 u2
      obtain ⟨s, e0, _, _⟩ := DataW.trod_int Yba.underlying5 u0
      obtain ⟨q, e1, _, _⟩ := DataW.trod_int Yba.underlying5 u1
      obtain ⟨z, e2, _⟩ := DataW.trod_string Yba.underlying9 u2
      simp only [List.cons.injEq, and_true] at e0 e1 e2
      subst e0; subst e1; subst e2
      have c0 := hcell 0 (by omega)
      have c1 := hcell 1 (by omega)
      have c2 := hcell 2 (by omega)
      rw [add_add] at c0 c1 c2
      exact ⟨(s, q, z), by simpa using c0, by simpa using c1, by simpa using c2⟩
    obtain ⟨q, hq⟩ := choose_lt each
    refine ⟨_, _, _, fun i => (q i).1, fun i => (q i).2.1, fun i => (q i).2.2, rfl, fun i hi => ?_⟩
    obtain ⟨g0, g1, g2⟩ := hq i hi
    have z0 := (hq 0 (by omega)).1
    have ha0 : a.add (0 * 3) = a := by simp [Addr.add]
    rw [ha0] at z0
    have hpa := plain_of z0
    rw [hpa, Fr.add_mk] at g0 g1 g2
    exact ⟨a.block, a.off, by rw [← hpa], (block_lt z0).1, by simpa using g0, by rw [Nat.add_assoc]; exact g1, by rw [Nat.add_assoc]; exact g2⟩

set_option maxRecDepth 100000 in
theorem lifted (os : Os) (started : os.Started) (H : Type) (enc : TypeId × Value → H) :
    ReturnsInHanded {} Yba.checked os 3 .any (Rows.lawS9086AWholeSpec.pre6 enc Yba.prog Yba.f3 Rows.lawS9086AWholeRow.domain false) (Rows.lawS9086AWholeSpec.post enc Yba.prog Yba.f3 false true false false) := by
  refine returnsInHanded_of_change (C := Yba.checked) own started (by kernel_rfl) Yba.func3
    (ChangeSpec.witness6 (enc := enc) (C := Yba.checked) false ⟨#[], #[.int .i64 0, .slice Option.none 0 0, .slice Option.none 0 0], []⟩ 8 (by kernel_rfl) (by kernel_rfl) (by kernel_rfl) (by kernel_rfl)) ?_
  intro W base args ds gs before hval0 hW hcnd _
  have hval : ∀ (j : Nat) t v, Yba.f3.params[j]? = some t → args[j]? = some v → Value.okWide Yba.prog W .any base t v := hval0
  have hW' := hW
  obtain ⟨p, q, hA0, hV, rfl, hfz, hnd⟩ := hW
  have hA : DataW.TrodAll enc Yba.prog W 0 (fun _ => true) true Yba.f3.params.toList args.toList ds p := hA0
  rw [Yba.params3] at hA hval
  obtain ⟨v0, vs0, d0, ds0, p0, q0, hargs, rfl, rfl, h0, r0⟩ := trodAll_cons hA
  obtain ⟨v1, vs1, d1, ds1, p1, q1, rfl, rfl, rfl, h1, r1⟩ := trodAll_cons r0
  obtain ⟨v2, vs2, d2, ds2, p2, q2, rfl, rfl, rfl, h2, r2⟩ := trodAll_cons r1
  obtain ⟨rfl, rfl, rfl⟩ := trodAll_nil r2
  obtain rfl : args = #[v0, v1, v2] := by cases args; simp_all
  obtain ⟨rfl, rfl⟩ := trodVars_none hV
  have k1 := h1
  have k2 := h2
  have lt1 : ∀ x ∈ p1, x.block < W.heap.size := by obtain ⟨m, hm⟩ := k1; exact DataW.trod_lt m _ _ _ hm
  have lt2 : ∀ x ∈ p2, x.block < W.heap.size := by obtain ⟨m, hm⟩ := k2; exact DataW.trod_lt m _ _ _ hm
  obtain ⟨x0, rfl, rfl, rfl, w0⟩ := open_int Yba.underlying2 (hval 0 2 v0 rfl rfl) h0
  obtain ⟨A, m, C, kd, ky, dd, rfl, g1, b1⟩ := open_ops h1 (okWide_slice Yba.underlying22 (hval 1 22 v1 rfl rfl))
  obtain ⟨A', m', C', sa, sp, sd, rfl, g2⟩ := open_sess h2 (okWide_slice Yba.underlying23 (hval 2 23 v2 rfl rfl))
  clear hA0 hval0
  refine (law_any A A' m m' C C' x0 kd ky dd sa sp sd W g1 g2 b1).mono fun e W' ⟨he, bel⟩ => ?_
  subst he
  exact ⟨_, rfl, _, _, _, [], _, [], hW', trodAll_mk1 (shut_bool Yba.underlying4 _), (trodAll_cons_mk (shut_int Yba.underlying2 w0) (trodAll_cons_mk (Below.trod laidOut (by kernel_rfl) (of_decide_eq_true (by kernel_rfl)) k1 bel lt1) (trodAll_cons_mk (Below.trod laidOut (by kernel_rfl) (of_decide_eq_true (by kernel_rfl)) k2 bel lt2) trodAll_mk0))), rfl, bel.frame _, fun h => by cases h⟩

theorem lawS9086AWhole_holds : Rows.LawS9086AWholeSaid :=
  OpenClaim.holds_of_wide 3 Yba.f3 rfl rfl rfl rfl rfl rfl rfl ⟨rfl, rfl, rfl, rfl, rfl⟩ rfl rfl rfl rfl rfl (by kernel_rfl) Yba.func3 (by kernel_rfl)
    (of_decide_eq_true (by kernel_rfl)) (by unfold Func.isWrapper; first | (rw [if_pos (by decide +kernel)]; kernel_rfl) | (rw [if_neg (by decide +kernel)]; exact ⟨rfl, rfl⟩))
    (fun os started H enc _ => lifted os started H enc)
end Go.Proofs.Ybulkgfdm
