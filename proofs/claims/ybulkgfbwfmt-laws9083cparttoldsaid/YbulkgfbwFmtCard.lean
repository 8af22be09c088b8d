/- The told and tied card of LawS9083CPart. -/
import Derived.Test.YbulkgfbwFmtLaw
import Derived.Test.YbulkgfbwFmtTie
import Derived.Test.YbulkgfbwFmtCards
import Derived.SevenTiedAt
import Derived.ProofKit
import Derived.LaidMore
import Derived.OpenShut
import Derived.OpenVars
import Derived.Stop.Joined
import Derived.Stop.JoinedTold
import Derived.Deep.DeepWitnessRef
import Derived.SizedLaws
import Derived.Lib.LaidU8
import Derived.Stop.LaidErr
namespace Go.Proofs.YbulkgfbwFmt
open Go.ChangeShapes Go.WideShapes Go.ChangeAt Go.RowKit Go.Stop Go.Extern

theorem own : ownKnob Ybaf.prog.godebug = Option.none := by kernel_rfl
theorem laidOut : laidOutB Ybaf.prog = true := by kernel_rfl
theorem ce9 : Ybaf.prog.cellsOf 9 = 1 := by kernel_rfl

/-- The variable's name, off the row. -/
abbrev tabName : String := Rows.lawS9083CPartRow.named.headD ""
theorem gTab : Ybaf.prog.globalNamed tabName = some 0 := by kernel_rfl
theorem tTab : (Ybaf.prog.globals[0]?).map (·.type) = some 28 := by kernel_rfl

theorem bytes_of {s : ByteArray} {l : List UInt8} (h : s.data.toList = l) : s = ⟨l.toArray⟩ := by
  cases s with
  | mk d => subst h; rfl

theorem tab_of {W : World} (h : laidMetH Ybaf.prog Rows.lawS9083CPartRow.laid W) : TabS W := by
  rw [MakeChecks.laidMetH_plain _ _ _ (by kernel_rfl)] at h
  obtain ⟨g, t, cs, fuel, p, hg, ht, hvar, hd⟩ := Lib.laidMet.reads h (n := tabName) (d := Rows.laid_example_com_rowfold_rowfold_typeNames) (List.mem_singleton.2 rfl)
  obtain rfl := Option.some.inj (gTab.symm.trans hg)
  obtain rfl := Option.some.inj (tTab.symm.trans ht)
  obtain ⟨xs, m, _, hx, hl, hxl, hall⟩ := DataW.trod_array Ybaf.underlying28 hd
  have hxs : xs.map (·.1) = [.lit (.string [110, 117, 108, 108]), .lit (.string [98, 111, 111, 108, 101, 97, 110]), .lit (.string [110, 117, 109, 98, 101, 114]), .lit (.string [115, 116, 114, 105, 110, 103]), .lit (.string [97, 114, 114, 97, 121]), .lit (.string [111, 98, 106, 101, 99, 116])] := by
    have := congrArg Prod.fst hx
    simp only [Rows.laid_example_com_rowfold_rowfold_typeNames, DataW.agg.injEq] at this
    exact this.symm
  intro i hi
  have h1 := hall i hi
  obtain ⟨b, hb⟩ : ∃ b, xs[i]? = some b := ⟨xs[i]'(by omega), List.getElem?_eq_getElem (by omega)⟩
  rw [hb, ce9, Nat.mul_one] at h1
  obtain ⟨s, hcs, hbs, _⟩ := DataW.trod_string Ybaf.underlying9 h1
  have h2 : cs.toList[i]? = some (.string s) := by
    have := congrArg (·[0]?) hcs
    simpa [List.getElem?_take, List.getElem?_drop] using this
  have h3 : (xs.map (·.1))[i]? = some (DataW.lit (.string s.data.toList)) := by rw [List.getElem?_map, hb, hbs]; rfl
  rw [hxs] at h3
  have hname : s = nameB i := by
    match i, hi, h3 with
    | 0, _, h3 => simp at h3; exact bytes_of h3.symm
    | 1, _, h3 => simp at h3; exact bytes_of h3.symm
    | 2, _, h3 => simp at h3; exact bytes_of h3.symm
    | 3, _, h3 => simp at h3; exact bytes_of h3.symm
    | 4, _, h3 => simp at h3; exact bytes_of h3.symm
    | 5, _, h3 => simp at h3; exact bytes_of h3.symm
  have := World.var?_cell gTab hvar i
  rw [Nat.zero_add, Nat.mul_one, this, ← hname]
  simpa using h2

theorem door_met (os : Os) (args : Array Value) : laidMetH Ybaf.prog Rows.lawS9083CPartRow.laid ((World.doorLaid Ybaf.prog 400 os).forCall (fun _ _ => 0) ⟨#[], args, []⟩).memory :=
  laidMetH_of_parts3 (fuel := 8) (laidMet_of_run' 8 (by kernel_rfl) (by kernel_rfl)) (by kernel_rfl) (by kernel_rfl)

abbrev spec7 : OpenSpec := OpenSpec.ofChange Rows.lawS9083CPartSpec

theorem witness_row (os : Os) {H : Type} (enc : TypeId × Value → H) :
    spec7.preRow enc Ybaf.prog Ybaf.f3 Rows.lawS9083CPartRow.domain false Rows.lawS9083CPartRow.laid ((World.doorLaid Ybaf.prog 400 os).forCall (fun _ _ => 0) ⟨#[], #[.int .i64 0], []⟩).memory #[.int .i64 0] :=
  OpenSpec.preRow_of_B rfl 8 (by kernel_rfl) (by kernel_rfl) (door_met os _)

set_option maxRecDepth 100000 in
theorem lifted (os : Os) (started : os.Started) (H : Type) (enc : TypeId × Value → H) :
    ReturnsInTold Option.none {} Ybaf.checked os 3 .any Input.okWide (spec7.preRow enc Ybaf.prog Ybaf.f3 Rows.lawS9083CPartRow.domain false Rows.lawS9083CPartRow.laid) (fun F => (spec7.at F).post enc Ybaf.prog Ybaf.f3 false true false false) (aloneAtReturn Ybaf.prog) nothingAlways := by
  refine returnsInTold_of_row (C := Ybaf.checked) (s := spec7) (by kernel_rfl) own started (by kernel_rfl) Ybaf.func3
    (OpenSpec.witness_stopped_atRef (enc := enc) (C := Ybaf.checked) false (World.doorLaid Ybaf.prog 400 os) #[.int .i64 0] rfl (by kernel_rfl) (by kernel_rfl) (by kernel_rfl) (witness_row os enc)) ?_
  intro F W base args ds gs before _ hF hval0 hW _ _ _ hL _
  have hval : ∀ (j : Nat) t v, Ybaf.f3.params[j]? = some t → args[j]? = some v → Value.okWide Ybaf.prog W .any base t v := hval0
  have hW' := hW
  obtain ⟨p, q, hA0, hV0, rfl, hfz, hnd⟩ := hW
  have hA : DataW.TrodAll enc Ybaf.prog W 0 (fun _ => true) true Ybaf.f3.params.toList args.toList ds p := hA0
  have hV : DataW.TrodVars enc Ybaf.prog W (fun _ => true) Rows.lawS9083CPartSpec.vars gs q := hV0
  rw [Ybaf.params3] at hA hval
  obtain ⟨v0, d0, rfl, rfl, h0⟩ := trodAll_one hA
  obtain ⟨x0, rfl, rfl, rfl, w0⟩ := open_int Ybaf.underlying3 (hval 0 3 v0 rfl rfl) h0
  have hV1 := hV
  obtain ⟨_, _, _, _, d1, _, rfl, _⟩ := trodVars_one hV1
  clear hA0 hV0 hval0 hV1
  refine (law_any x0 W (tab_of hL)).mono fun e W' ⟨he, bel⟩ => ?_
  subst he
  exact ⟨_, rfl, _, _, _, [], _, _, hW', trodAll_mk1 (shut_bool Ybaf.underlying4 _), trodAll_mk1 (shut_int Ybaf.underlying3 w0), Below.trodVars laidOut bel (by kernel_rfl) hV, bel.frame _, fun h => by cases h⟩

theorem stops : Ybaf.pinned.checked.prog.stops = ["fmt.Sprintf"] := by kernel_rfl
theorem stopKnobs : Ybaf.pinned.checked.prog.stopKnobs = [] := by kernel_rfl
theorem quiet (os : Os) : Stop.quiet Ybaf.pinned.checked.prog os := by
  intro k hk
  rw [stopKnobs] at hk
  cases hk

theorem lawS9083CPart_card : Rows.LawS9083CPartToldSaid :=
  Claim7.holds_of_told_tied_any_at .later 3 Ybaf.f3 "fmt.Sprintf" [] [] _ _ _ _ _ (by kernel_rfl) rfl rfl rfl laidOut (by kernel_rfl) rfl ⟨rfl, rfl, rfl, rfl, rfl, rfl, rfl⟩ rfl rfl (by kernel_rfl) (by kernel_rfl) Ybaf.func3 (by kernel_rfl)
    (of_decide_eq_true (by kernel_rfl)) (of_decide_eq_true (by kernel_rfl)) stops.symm rfl stopKnobs.symm (by kernel_rfl)
    (by kernel_rfl) (by kernel_rfl) (by kernel_rfl) (by kernel_rfl) (by kernel_rfl) (by kernel_rfl) (by kernel_rfl) (by kernel_rfl) (by kernel_rfl) rfl (by kernel_rfl) rfl rfl
    rfl rfl
    rfl (by kernel_rfl) (by kernel_rfl) (by kernel_rfl) (by decide) (by kernel_rfl) lawS9083CPart_row_tie
    (OpenClaim.moreEntering_of (by kernel_rfl) (by kernel_rfl) (by kernel_rfl) (by kernel_rfl) (by kernel_rfl) (by kernel_rfl) (by kernel_rfl) (by kernel_rfl) (by kernel_rfl) (by kernel_rfl))
    ⟨_, WideRow.started_initial, quiet _⟩
    (fun os started _ H enc _ => lifted os started H enc)
end Go.Proofs.YbulkgfbwFmt
