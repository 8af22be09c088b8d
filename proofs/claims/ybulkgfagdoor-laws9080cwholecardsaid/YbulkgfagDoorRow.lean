/- The row and the tied card of LawS9080CWhole. -/
import Derived.Test.YbulkgfagDoorLaw
import Derived.Test.YbulkgfagDoorRows
import Derived.ProofKit
import Derived.LaidMore
import Derived.OpenShut
import Derived.Stop.Joined
import Derived.SizedLaws
import Derived.Deep.Matrix
import Derived.Lib.LaidTab
import Derived.Stop.LaidErr
import Derived.ShutString
namespace Go.Proofs.YbulkgfagDoor
open Go.ChangeShapes Go.WideShapes Go.ChangeAt Go.RowKit Go.Deep
open Go.ChangeMaps (open_string shut_string)

theorem own : ownKnob Ybad.prog.godebug = none := by kernel_rfl
theorem laidOut : laidOutB Ybad.prog = true := by kernel_rfl
theorem tPow : (Ybad.prog.globals[0]?).map (·.type) = some 76 := by kernel_rfl
theorem u76 : Ybad.prog.underlying 76 = some (.array 20 61) := by kernel_rfl
theorem ce61 : Ybad.prog.cellsOf 61 = 1 := by kernel_rfl
theorem ce76 : Ybad.prog.cellsOf 76 = 20 := by kernel_rfl
theorem ce23 : Ybad.prog.cellsOf 23 = 1 := by kernel_rfl
theorem ce5 : Ybad.prog.cellsOf 5 = 1 := by kernel_rfl
theorem by5 : Ybad.prog.bytesOf 5 = 1 := by kernel_rfl
theorem reach_eq : reachBytes = 140737488351232 := rfl

abbrev laid3 : List (String × DataW Unit) := Rows.lawS9080CWholeRow.laid

/-- The door's own heap meets the condition. -/
theorem door_met (os : Os) (args : Array Value) : laidMetH Ybad.prog laid3 ((World.doorLaid Ybad.prog 400 os).forCall (fun _ _ => 0) ⟨#[], args, []⟩).memory :=
  laidMetH_of_parts3 (fuel := 8) (laidMet_of_run' 8 (by kernel_rfl) (by kernel_rfl)) (by kernel_rfl) (by kernel_rfl)

theorem pow_data : (Rows.laid_internal_strconv_uint64pow10 : DataW Unit) = Lib.tabData .u64 Lib.pow10Tab := by kernel_rfl

theorem tab_of {W : World} (h : laidMetH Ybad.prog laid3 W) : Tab W := by
  rw [MakeChecks.laidMetH_plain _ _ _ (by kernel_rfl)] at h
  have h1 : laidMet Ybad.prog ((powName, Lib.tabData .u64 Lib.pow10Tab) :: []) W := by
    have h2 := laidMet.tail (laidMet.tail h)
    rw [pow_data] at h2
    exact h2
  have h3 := Lib.tabIs_of_head gPow tPow u76 Ybad.underlying61 ce61 ce76 h1
  refine ⟨h3, ?_⟩
  have h4 := h3.cell gPow 0 (by rw [Lib.pow10Tab_length]; decide)
  unfold World.cell? at h4
  split at h4
  · rename_i hh; exact Fr.lt_of_heap hh
  · cases h4

theorem weightsAll_mem {H : Type} {P : Program} {e : TypeId} : ∀ {l : List (DataW H)} {d : DataW H}, d ∈ l → ∀ n ∈ d.weights P e, n ∈ DataW.weightsAll P e l
  | d' :: r, d, hd, n, hn => by
    simp only [DataW.weightsAll, List.mem_append]
    rcases List.mem_cons.1 hd with rfl | hr
    · exact Or.inl hn
    · exact Or.inr (weightsAll_mem hr n hn)

/-- The reach of a row inside a slice of slices. -/
theorem sized_inner {H : Type} {P : Program} {ts : List TypeId} {ds : List (DataW H)} (h : (DataW.weightsEach P ts ds).all (· ≤ reachBytes) = true) {j : Nat} {t e q : TypeId} {elems spare e' sp' : List (DataW H)}
    (ht : ts[j]? = some t) (hd : ds[j]? = some (.slice elems spare)) (hu : P.underlying t = some (.slice e)) (hu2 : P.underlying e = some (.slice q)) (hx : DataW.slice e' sp' ∈ elems) : (e'.length + sp'.length) * P.bytesOf q ≤ reachBytes := by
  refine of_decide_eq_true (List.all_eq_true.1 h _ (DataW.weights_mem_each ht hd _ ?_))
  simp only [DataW.weights, hu, List.mem_cons, List.mem_append]
  exact Or.inr (Or.inl (weightsAll_mem hx _ (by simp [DataW.weights, hu2])))

theorem block_lt {W : World} {a : Addr} {v : Value} (h : W.cell? a = some v) : a.block < W.heap.size ∧ a.spot = Option.none := by
  unfold World.cell? at h
  split at h
  · rename_i hh
    refine ⟨Fr.lt_of_heap hh, ?_⟩
    cases hs : a.spot with
    | none => rfl
    | some x => rw [hs] at h; simp at h
  · cases h
theorem plain_of {W : World} {a : Addr} {v : Value} (h : W.cell? a = some v) : a = ⟨a.block, a.off, Option.none⟩ := by
  have := (block_lt h).2
  cases a; simp_all

theorem size_list (s : ByteArray) : s.size = s.data.toList.length := (Array.length_toList (xs := s.data)).symm

/-- An argument of the type [][]uint8, opened. -/
theorem open_rows {H : Type} {enc : TypeId × Value → H} {W : World} {v : Value} {d : DataW H} {p : List MemPlace} (hd : DataW.Trod enc Ybad.prog W 0 (fun _ => true) true 22 v d p) {ts : List TypeId} {ds : List (DataW H)} {j : Nat}
    (hsz : (DataW.weightsEach Ybad.prog ts ds).all (· ≤ reachBytes) = true) (hts : ts[j]? = some 22) (hds : ds[j]? = some d) (hval : ∃ a len cap, v = .slice a len cap) :
    ∃ (A : Option Addr) (m C : Nat) (R : Nat → List Nat), v = .slice A m C ∧ RowsAt W W.heap.size A m R ∧ ∀ k, k < m → (R k).length ≤ 140737488355328 := by
  obtain ⟨a0, l0, c0, rfl⟩ := hval
  obtain ⟨fuel, hf⟩ := hd
  rcases open_int_rows Ybad.underlying22 Ybad.underlying23 Ybad.underlying5 ce23 ce5 hf with ⟨hcs, _⟩ | ⟨a, len, cap, A, L, C, Z, hcs, _, hl, hm, hx, hr⟩
  · simp [Value.cells] at hcs
    obtain ⟨rfl, rfl, rfl⟩ := hcs
    exact ⟨_, _, _, fun _ => [], rfl, fun k hk => absurd hk (Nat.not_lt_zero _), fun k hk => absurd hk (Nat.not_lt_zero _)⟩
  · simp [Value.cells] at hcs
    obtain ⟨rfl, rfl, rfl⟩ := hcs
    simp only [Prod.mk.injEq] at hx
    refine ⟨_, _, _, fun k => ((Z k).take (L k)).map Int.toNat, rfl, fun k hk => ?_, fun k hk => ?_⟩
    · obtain ⟨h1, h2, h3, h4, h5, h6, h7⟩ := hr k (by omega)
      have h0 := (hr 0 (by omega)).1
      have ha0 : a.add 0 = a := by simp [Addr.add]
      rw [ha0] at h0
      have hpa := plain_of h0
      have hlen : (((Z k).take (L k)).map Int.toNat).length = L k := by simp; omega
      refine ⟨a.block, a.off, A k, C k, by rw [← hpa], (block_lt h0).1, ?_, fun i x hx => ?_⟩
      · rw [hlen, ← Fr.add_mk, ← hpa]; exact h1
      · have hiL : i < L k := by
          have := (List.getElem?_eq_some_iff.1 hx).1
          rw [← hlen]; exact this
        have hzi : (Z k).getD i 0 ∈ Z k := by
          rw [List.getD_eq_getElem?_getD, List.getElem?_eq_getElem (by omega)]
          exact List.getElem_mem _
        have hwf := h5 _ hzi
        have hxz : x = ((Z k).getD i 0).toNat := by
          rw [List.getElem?_map, List.getElem?_take, if_pos hiL, List.getElem?_eq_getElem (by omega)] at hx
          rw [List.getD_eq_getElem?_getD, List.getElem?_eq_getElem (by omega)]
          simpa using hx.symm
        have hb := bounds_u8 hwf
        cases hA : A k with
        | none => have := h6 hA; omega
        | some a' =>
          obtain ⟨_, h8⟩ := h7 a' hA
          have g0 := h8 0 (by omega)
          have ha0' : a'.add 0 = a' := by simp [Addr.add]
          rw [ha0'] at g0
          have hpa' := plain_of g0
          refine ⟨by omega, a'.block, a'.off, by rw [← hpa'], (block_lt g0).1, ?_⟩
          rw [← Fr.add_mk, ← hpa', h8 i (by omega), hxz, Int.toNat_of_nonneg hb.1]
    · obtain ⟨h1, h2, h3, h4, h5, h6, h7⟩ := hr k (by omega)
      have hlen : (((Z k).take (L k)).map Int.toNat).length = L k := by simp; omega
      rw [hlen]
      cases hA : A k with
      | none => have := h6 hA; omega
      | some a' =>
        rw [hx.1] at hds
        have hin := sized_inner hsz hts hds Ybad.underlying22 Ybad.underlying23 (e' := lits .u8 ((Z k).take (L k))) (sp' := lits .u8 ((Z k).drop (L k))) (List.mem_map.2 ⟨k, List.mem_range.2 hk, by simp [intRow, hA]⟩)
        simp only [lits, List.length_map, List.length_take, List.length_drop, by5, reach_eq] at hin
        omega

set_option maxRecDepth 100000 in
theorem lifted (os : Os) (started : os.Started) (H : Type) (enc : TypeId × Value → H) :
    ReturnsInHanded {} Ybad.checked os 3 .any (fun w args => (Rows.lawS9080CWholeSpec.pre enc Ybad.prog Ybad.f3 [] false w args ∧ laidMetH Ybad.prog laid3 w) ∧ sizedMet enc Ybad.prog Ybad.f3 (OpenSpec.ofChange Rows.lawS9080CWholeSpec) false w args)
      (Rows.lawS9080CWholeSpec.post enc Ybad.prog Ybad.f3 false true false false) := by
  refine returnsInHanded_of_change_and (C := Ybad.checked) (X := fun w _ => laidMetH Ybad.prog laid3 w) (fun _ _ _ hh h => h.of_heap hh) own started (by kernel_rfl) Ybad.func3
    (ChangeSpec.witness_shaped (enc := enc) (C := Ybad.checked) (os := os) (X := fun w _ => laidMetH Ybad.prog laid3 w) false (World.doorLaid Ybad.prog 400 os)
      #[.int .u8 0, .int .u8 0, .slice Option.none 0 0, .slice Option.none 0 0, .slice Option.none 0 0, .string ⟨#[]⟩, .string ⟨#[]⟩] 8 rfl (World.shaped_of_RefB (by kernel_rfl) (by kernel_rfl)) (by kernel_rfl) (by kernel_rfl) (by kernel_rfl) (door_met os _)) ?_
  intro W base args ds gs before hval0 hW _ hsz0 hL _
  have hsz : (DataW.weightsEach Ybad.prog (Ybad.f3.params.toList ++ Rows.lawS9080CWholeSpec.plain.varTypes Ybad.prog) (ds ++ gs)).all (· ≤ reachBytes) = true := hsz0
  have hval : ∀ (j : Nat) t v, Ybad.f3.params[j]? = some t → args[j]? = some v → Value.okWide Ybad.prog W .any base t v := hval0
  have hW' := hW
  obtain ⟨p, q, hA0, hV, rfl, hfz, hnd⟩ := hW
  have hA : DataW.TrodAll enc Ybad.prog W 0 (fun _ => true) true Ybad.f3.params.toList args.toList ds p := hA0
  rw [Ybad.params3] at hA hval hsz
  obtain ⟨v0, vs0, d0, ds0, p0, q0, hargs, rfl, rfl, h0, r0⟩ := trodAll_cons hA
  obtain ⟨v1, vs1, d1, ds1, p1, q1, rfl, rfl, rfl, h1, r1⟩ := trodAll_cons r0
  obtain ⟨v2, vs2, d2, ds2, p2, q2, rfl, rfl, rfl, h2, r2⟩ := trodAll_cons r1
  obtain ⟨v3, vs3, d3, ds3, p3, q3, rfl, rfl, rfl, h3, r3⟩ := trodAll_cons r2
  obtain ⟨v4, vs4, d4, ds4, p4, q4, rfl, rfl, rfl, h4, r4⟩ := trodAll_cons r3
  obtain ⟨v5, vs5, d5, ds5, p5, q5, rfl, rfl, rfl, h5, r5⟩ := trodAll_cons r4
  obtain ⟨v6, vs6, d6, ds6, p6, q6, rfl, rfl, rfl, h6, r6⟩ := trodAll_cons r5
  obtain ⟨rfl, rfl, rfl⟩ := trodAll_nil r6
  obtain rfl : args = #[v0, v1, v2, v3, v4, v5, v6] := by cases args; simp_all
  obtain ⟨rfl, rfl⟩ := trodVars_none hV
  have k2 := h2
  have k3 := h3
  have k4 := h4
  have lt2 : ∀ x ∈ p2, x.block < W.heap.size := by obtain ⟨m, hm⟩ := k2; exact DataW.trod_lt m _ _ _ hm
  have lt3 : ∀ x ∈ p3, x.block < W.heap.size := by obtain ⟨m, hm⟩ := k3; exact DataW.trod_lt m _ _ _ hm
  have lt4 : ∀ x ∈ p4, x.block < W.heap.size := by obtain ⟨m, hm⟩ := k4; exact DataW.trod_lt m _ _ _ hm
  obtain ⟨x0, rfl, rfl, rfl, w0⟩ := open_int Ybad.underlying5 (hval 0 5 v0 rfl rfl) h0
  obtain ⟨x1, rfl, rfl, rfl, w1⟩ := open_int Ybad.underlying5 (hval 1 5 v1 rfl rfl) h1
  obtain ⟨s5, rfl, rfl, rfl, ws5⟩ := open_string Ybad.underlying9 (hval 5 9 v5 rfl rfl) h5
  obtain ⟨s6, rfl, rfl, rfl, ws6⟩ := open_string Ybad.underlying9 (hval 6 9 v6 rfl rfl) h6
  have z5 := sized_string hsz (j := 5) (t := 9) rfl rfl
  have z6 := sized_string hsz (j := 6) (t := 9) rfl rfl
  obtain ⟨A2, m2, C2, R2, rfl, g2, b2⟩ := open_rows h2 hsz (j := 2) rfl rfl (okWide_slice Ybad.underlying22 (hval 2 22 v2 rfl rfl))
  obtain ⟨A3, m3, C3, R3, rfl, g3, b3⟩ := open_rows h3 hsz (j := 3) rfl rfl (okWide_slice Ybad.underlying22 (hval 3 22 v3 rfl rfl))
  obtain ⟨A4, m4, C4, R4, rfl, g4, b4⟩ := open_rows h4 hsz (j := 4) rfl rfl (okWide_slice Ybad.underlying22 (hval 4 22 v4 rfl rfl))
  have e0 := bounds_u8 w0
  have e1 := bounds_u8 w1
  obtain ⟨n0, hn0⟩ : ∃ n : Nat, x0 = (n : Int) := ⟨x0.toNat, by omega⟩
  obtain ⟨n1, hn1⟩ : ∃ n : Nat, x1 = (n : Int) := ⟨x1.toNat, by omega⟩
  subst hn0 hn1
  have t5 : s5.size ≤ 1000000000000000 := by
    have : s5.data.toList.length ≤ 140737488351232 := z5
    have e := size_list s5
    omega
  have t6 : s6.size ≤ 1000000000000000 := by
    have : s6.data.toList.length ≤ 140737488351232 := z6
    have e := size_list s6
    omega
  clear hA0 hval0 hsz0
  refine (law_any n0 n1 A2 A3 A4 m2 C2 m3 C3 m4 C4 R2 R3 R4 s5 s6 W (by omega) (tab_of hL) g2 g3 g4 b2 b3 b4 t5 t6).mono fun e W' ⟨he, bel⟩ => ?_
  subst he
  exact ⟨_, rfl, _, _, _, [], _, [], hW', trodAll_mk1 (shut_bool Ybad.underlying4 _), (trodAll_cons_mk (shut_int Ybad.underlying5 w0) (trodAll_cons_mk (shut_int Ybad.underlying5 w1)
    (trodAll_cons_mk (Below.trod laidOut (by kernel_rfl) (of_decide_eq_true (by kernel_rfl)) k2 bel lt2) (trodAll_cons_mk (Below.trod laidOut (by kernel_rfl) (of_decide_eq_true (by kernel_rfl)) k3 bel lt3)
    (trodAll_cons_mk (Below.trod laidOut (by kernel_rfl) (of_decide_eq_true (by kernel_rfl)) k4 bel lt4) (trodAll_cons_mk (shut_string Ybad.underlying9 ws5) (trodAll_cons_mk (shut_string Ybad.underlying9 ws6) trodAll_mk0))))))), rfl, bel.frame _, fun h => by cases h⟩

theorem lawS9080CWhole_holds : Rows.LawS9080CWholeSaid :=
  OpenClaim.holds_of_wide 3 Ybad.f3 rfl rfl rfl rfl rfl rfl rfl ⟨rfl, rfl, rfl, rfl, rfl⟩ rfl rfl rfl rfl rfl (by kernel_rfl) Ybad.func3 (by kernel_rfl)
    (of_decide_eq_true (by kernel_rfl)) (by unfold Func.isWrapper; first | (rw [if_pos (by decide +kernel)]; kernel_rfl) | (rw [if_neg (by decide +kernel)]; exact ⟨rfl, rfl⟩))
    (fun os started H enc _ => lifted os started H enc)
end Go.Proofs.YbulkgfagDoor
