/- (*File).Disjoint, its three ways. -/
import Derived.Test.YbulkgfagDoorNames
namespace Go.Proofs.YbulkgfagDoor
open Go Go.Fr Go.RowKit

theorem two_cells {w : World} {b o : Nat} {x y : Value} (h0 : w.cell? ⟨b, o, none⟩ = some x) (h1 : w.cell? ⟨b, o + 1, none⟩ = some y) : ∀ (j : Nat) (v : Value), [x, y][j]? = some v → w.cell? ⟨b, o + j, none⟩ = some v
  | 0, v, h => by simp at h; subst h; exact h0
  | 1, v, h => by simp at h; subst h; exact h1
  | j + 2, v, h => by simp at h

theorem all2 {x y : Value} (hx : x.oneCell' = true) (hy : y.oneCell' = true) : (#[x, y].all (·.oneCell')) = true := by simp [hx, hy]

/-- The file is a read-write system. -/
theorem dis_rw (f rwp p1 p2 b1 b2 m1 m2 W : Nat) (F G : Nat → Nat → Nat) (rl wl : ByteArray) (w : World) (ht : Tab w) (hm1 : m1 ≤ 1024) (hm2 : m2 ≤ 1024) (hW : W ≤ 3) (hrl : rl.size ≤ 1000000000000000) (hwl : wl.size ≤ 1000000000000000)
    (h1 : SetsAt w w.heap.size b1 m1 W F) (h2 : SetsAt w w.heap.size b2 m2 W G) (hf : f < w.heap.size) (hrw : rwp < w.heap.size) (hp1 : p1 < w.heap.size) (hp2 : p2 < w.heap.size)
    (hcf : w.cell? ⟨f, 0 + 6, none⟩ = some (.pointer (some ⟨rwp, 0, none⟩)))
    (r0 : w.cell? ⟨rwp, 0 + 0, none⟩ = some (.pointer (some ⟨p1, 0, none⟩))) (r1 : w.cell? ⟨rwp, 0 + 0 + 1, none⟩ = some (.string rl))
    (r2 : w.cell? ⟨rwp, 0 + 2, none⟩ = some (.pointer (some ⟨p2, 0, none⟩))) (r3 : w.cell? ⟨rwp, 0 + 2 + 1, none⟩ = some (.string wl))
    (hc1 : w.cell? ⟨p1, 0 + 1, none⟩ = some (.slice (some ⟨b1, 0, none⟩) m1 m1)) (hc2 : w.cell? ⟨p2, 0 + 1, none⟩ = some (.slice (some ⟨b2, 0, none⟩) m2 m2)) (i0 j0 : Nat) (ok0 : Bool) (hi0 : i0 ≤ 1024) (hj0 : j0 ≤ 1024)
    (hF0 : FirstAt (apart W F G) (fun _ => 0) m1 m2 i0 j0 ok0) :
    Calls Ybad.prog 7 #[.pointer (some ⟨f, 0, none⟩)] w fun e w' => e = .returned (.tuple #[.string (rl ++ dec (i0 + 1)), .string (wl ++ dec (j0 + 1)), .bool ok0]) ∧ Below w.heap.size w w' := by
  refine calls_of Ybad.func7 rfl Ybad.ntmps7 rfl ?_
  refine WC.seq (WC.region ?_)
  repeat (first | (refine WL.val ?_ ?_ (Runs.move rfl) ?_; rfl; rfl) | (refine WL.val ?_ ?_ (Runs.assign rfl) ?_; rfl; rfl) | (refine WL.val ?_ ?_ (Runs.extract rfl rfl) ?_; rfl; rfl) | (refine WL.val ?_ ?_ (Runs.nilCheck rfl) ?_; rfl; rfl) | (refine WL.val ?_ ?_ (Runs.pickT rfl rfl) ?_; rfl; rfl) | (refine WL.val ?_ ?_ (Runs.pickF rfl rfl) ?_; rfl; rfl) | (refine WL.val ?_ ?_ (Runs.len rfl sl22) ?_; rfl; rfl) | (refine WL.val ?_ ?_ (Runs.len rfl sl23) ?_; rfl; rfl) | (refine WL.val ?_ ?_ (Runs.len rfl sl24) ?_; rfl; rfl) | (refine WL.val ?_ ?_ (Runs.len rfl sl26) ?_; rfl; rfl) | (refine WL.val ?_ ?_ (Runs.len rfl sl27) ?_; rfl; rfl) | (refine WL.val ?_ ?_ (Runs.len rfl sl48) ?_; rfl; rfl) | (refine WL.val ?_ ?_ (Runs.len rfl sl60) ?_; rfl; rfl) | (refine WL.pass ?_ ?_ ?_; rfl; rfl))
  refine WL.nil ?_
  repeat (first | refine AtExit.thenRet ?_ | refine AtExit.thenExit ?_ | refine AtExit.blockRet ?_ | refine AtExit.blockEnd ?_ | refine AtExit.blockExit ?_ | (refine AtExit.blockPast ?_ ?_; rfl))
  refine AtExit.go ?_
  refine WC.seq (WC.block ?_)
  refine WC.seq (WC.region ?_)
  repeat (first | (refine WL.val ?_ ?_ (Runs.move rfl) ?_; rfl; rfl) | (refine WL.val ?_ ?_ (Runs.assign rfl) ?_; rfl; rfl) | (refine WL.val ?_ ?_ (Runs.extract rfl rfl) ?_; rfl; rfl) | (refine WL.val ?_ ?_ (Runs.nilCheck rfl) ?_; rfl; rfl) | (refine WL.val ?_ ?_ (Runs.pickT rfl rfl) ?_; rfl; rfl) | (refine WL.val ?_ ?_ (Runs.pickF rfl rfl) ?_; rfl; rfl) | (refine WL.val ?_ ?_ (Runs.len rfl sl22) ?_; rfl; rfl) | (refine WL.val ?_ ?_ (Runs.len rfl sl23) ?_; rfl; rfl) | (refine WL.val ?_ ?_ (Runs.len rfl sl24) ?_; rfl; rfl) | (refine WL.val ?_ ?_ (Runs.len rfl sl26) ?_; rfl; rfl) | (refine WL.val ?_ ?_ (Runs.len rfl sl27) ?_; rfl; rfl) | (refine WL.val ?_ ?_ (Runs.len rfl sl48) ?_; rfl; rfl) | (refine WL.val ?_ ?_ (Runs.len rfl sl60) ?_; rfl; rfl) | (refine WL.pass ?_ ?_ ?_; rfl; rfl))
  refine WL.val rfl rfl (Runs.fld rfl fl44_5) ?_
  refine WL.val rfl rfl (Runs.load rfl na42 hcf) ?_
  refine WL.val rfl rfl (Runs.neqPN rfl pt42 (r := true) rfl) ?_
  repeat (first | (refine WL.val ?_ ?_ (Runs.move rfl) ?_; rfl; rfl) | (refine WL.val ?_ ?_ (Runs.assign rfl) ?_; rfl; rfl) | (refine WL.val ?_ ?_ (Runs.extract rfl rfl) ?_; rfl; rfl) | (refine WL.val ?_ ?_ (Runs.nilCheck rfl) ?_; rfl; rfl) | (refine WL.val ?_ ?_ (Runs.pickT rfl rfl) ?_; rfl; rfl) | (refine WL.val ?_ ?_ (Runs.pickF rfl rfl) ?_; rfl; rfl) | (refine WL.val ?_ ?_ (Runs.len rfl sl22) ?_; rfl; rfl) | (refine WL.val ?_ ?_ (Runs.len rfl sl23) ?_; rfl; rfl) | (refine WL.val ?_ ?_ (Runs.len rfl sl24) ?_; rfl; rfl) | (refine WL.val ?_ ?_ (Runs.len rfl sl26) ?_; rfl; rfl) | (refine WL.val ?_ ?_ (Runs.len rfl sl27) ?_; rfl; rfl) | (refine WL.val ?_ ?_ (Runs.len rfl sl48) ?_; rfl; rfl) | (refine WL.val ?_ ?_ (Runs.len rfl sl60) ?_; rfl; rfl) | (refine WL.pass ?_ ?_ ?_; rfl; rfl))
  refine WL.nil ?_
  repeat (first | refine AtExit.thenRet ?_ | refine AtExit.thenExit ?_ | refine AtExit.blockRet ?_ | refine AtExit.blockEnd ?_ | refine AtExit.blockExit ?_ | (refine AtExit.blockPast ?_ ?_; rfl))
  refine AtExit.go ?_
  refine WC.condT rfl ?_
  have hS0 : Below w.heap.size w w.drew := (Below.refl _ _).drew
  refine WC.cut (α := Nat × Nat) (fun q => [(5, .pointer (some ⟨q.1, 0, none⟩)), (6, .pointer (some ⟨q.2, 0, none⟩))])
    (fun q w' => Below w.heap.size w w' ∧ w'.heap[q.1]? = some (.cells #[.pointer (some ⟨p1, 0, none⟩), .string rl] 53 (0, 0)) ∧ w'.heap[q.2]? = some (.cells #[.pointer (some ⟨p2, 0, none⟩), .string wl] 53 (0, 0))) ?_ ?_
  · refine WC.held (fun w' => Below w.heap.size w w') mixed rfl ?_
    refine HL.take 0 rfl (by kernel_rfl) (by kernel_rfl) (by kernel_rfl) (fun _ _ _ h => h) rfl rfl (fun wq hC => Runs.move rfl) (by assumption) ?_
    refine HL.take 1 rfl (by kernel_rfl) (by kernel_rfl) (by kernel_rfl) (fun _ _ _ h => h) rfl rfl (fun wq hC => Runs.nilCheck rfl) (by assumption) ?_
    refine HL.take 2 rfl (by kernel_rfl) (by kernel_rfl) (by kernel_rfl) (fun _ _ _ h => h) rfl rfl (fun wq hC => Runs.fld rfl fl44_5) (by assumption) ?_
    refine HL.take 3 rfl (by kernel_rfl) (by kernel_rfl) (by kernel_rfl) (fun _ _ _ h => h) rfl rfl (fun wq hC => Runs.load rfl na42 ((hC.cell (p := ⟨f, 0 + 6, none⟩) hf).trans hcf)) (by assumption) ?_
    refine HL.take 4 rfl (by kernel_rfl) (by kernel_rfl) (by kernel_rfl) (fun _ _ _ h => h) rfl rfl (fun wq hC => Runs.nilCheck rfl) (by assumption) ?_
    refine HL.take 5 rfl (by kernel_rfl) (by kernel_rfl) (by kernel_rfl) (fun _ _ _ h => h) rfl rfl (fun wq hC => Runs.fld rfl fl57_0) (by assumption) ?_
    refine HL.take 6 rfl (by kernel_rfl) (by kernel_rfl) (by kernel_rfl) (fun _ _ _ h => h) rfl rfl (fun wq hC => Runs.loadAgg (cs := [.pointer (some ⟨p1, 0, none⟩), .string rl]) rfl na53 sz53 (two_cells ((hC.cell (p := ⟨rwp, 0 + 0, none⟩) hrw).trans r0) ((hC.cell (p := ⟨rwp, 0 + 0 + 1, none⟩) hrw).trans r1))) (by assumption) ?_
    refine HL.take 7 rfl (by kernel_rfl) (by kernel_rfl) (by kernel_rfl) (fun _ _ _ h => h) rfl rfl (fun wq hC => Runs.move rfl) (by assumption) ?_
    refine HL.take 8 rfl (by kernel_rfl) (by kernel_rfl) (by kernel_rfl) (fun _ _ _ h => h) rfl rfl (fun wq hC => Runs.nilCheck rfl) (by assumption) ?_
    refine HL.take 9 rfl (by kernel_rfl) (by kernel_rfl) (by kernel_rfl) (fun _ _ _ h => h) rfl rfl (fun wq hC => Runs.fld rfl fl44_5) (by assumption) ?_
    refine HL.take 10 rfl (by kernel_rfl) (by kernel_rfl) (by kernel_rfl) (fun _ _ _ h => h) rfl rfl (fun wq hC => Runs.load rfl na42 ((hC.cell (p := ⟨f, 0 + 6, none⟩) hf).trans hcf)) (by assumption) ?_
    refine HL.take 11 rfl (by kernel_rfl) (by kernel_rfl) (by kernel_rfl) (fun _ _ _ h => h) rfl rfl (fun wq hC => Runs.nilCheck rfl) (by assumption) ?_
    refine HL.take 12 rfl (by kernel_rfl) (by kernel_rfl) (by kernel_rfl) (fun _ _ _ h => h) rfl rfl (fun wq hC => Runs.fld rfl fl57_1) (by assumption) ?_
    refine HL.take 13 rfl (by kernel_rfl) (by kernel_rfl) (by kernel_rfl) (fun _ _ _ h => h) rfl rfl (fun wq hC => Runs.loadAgg (cs := [.pointer (some ⟨p2, 0, none⟩), .string wl]) rfl na53 sz53 (two_cells ((hC.cell (p := ⟨rwp, 0 + 2, none⟩) hrw).trans r2) ((hC.cell (p := ⟨rwp, 0 + 2 + 1, none⟩) hrw).trans r3))) (by assumption) ?_
    have a1 : Below w.heap.size w (w.drew.alloc (.cells #[.pointer none, .string ⟨#[]⟩] 53)) := hS0.alloc (Nat.le_refl _) _
    have a2 : Below w.heap.size w ((w.drew.alloc (.cells #[.pointer none, .string ⟨#[]⟩] 53)).alloc (.cells #[.pointer none, .string ⟨#[]⟩] 53)) := a1.alloc a1.size _
    have n1 : ((w.drew.alloc (.cells #[.pointer none, .string ⟨#[]⟩] 53)).alloc (.cells #[.pointer none, .string ⟨#[]⟩] 53)).heap[w.heap.size]? = some (.cells #[.pointer none, .string ⟨#[]⟩] 53 (0, 0)) := heap_old (heap_new w.drew _)
    have n2 : ((w.drew.alloc (.cells #[.pointer none, .string ⟨#[]⟩] 53)).alloc (.cells #[.pointer none, .string ⟨#[]⟩] 53)).heap[w.heap.size + 1]? = some (.cells #[.pointer none, .string ⟨#[]⟩] 53 (0, 0)) := by
      have := heap_new (w.drew.alloc (.cells #[.pointer none, .string ⟨#[]⟩] 53)) (.cells #[.pointer none, .string ⟨#[]⟩] 53)
      rwa [size_new] at this
    refine HL.all2 (i := 14) (i' := 15) (by kernel_rfl) ?_ ?_
    · refine HO.val rfl rfl rfl (Runs.alloc in53) a1 ?_
      refine HL.all1 (i := 15) (by kernel_rfl) ?_
      refine HO.val rfl rfl rfl (Runs.alloc in53) a2 ?_
      rw [size_new]
      refine HL.all1 (i := 16) (by kernel_rfl) ?_
      refine HO.skip rfl rfl (RunsS.storeRow (b := w.heap.size) (old := #[.pointer none, .string ⟨#[]⟩]) (e := 53) rfl rfl (all2 rfl rfl) sz53 n1 rfl) (a2.trans (below_setRow' _ _ _ (Nat.le_refl _))) ?_
      refine HL.all1 (i := 17) (by kernel_rfl) ?_
      refine HO.skip rfl rfl (RunsS.storeRow (b := w.heap.size + 1) (old := #[.pointer none, .string ⟨#[]⟩]) (e := 53) rfl rfl (all2 rfl rfl) sz53 ((heap_setRow_other _ _ _ _ (by omega)).trans n2) rfl) ((a2.trans (below_setRow' _ _ _ (Nat.le_refl _))).trans (below_setRow' _ _ _ (Nat.le_succ _))) ?_
      refine HL.done (by kernel_rfl) ?_
      repeat (first | refine AtExit.thenRet ?_ | refine AtExit.thenExit ?_ | refine AtExit.blockRet ?_ | refine AtExit.blockEnd ?_ | refine AtExit.blockExit ?_ | (refine AtExit.blockPast ?_ ?_; rfl))
      refine AtExit.inv fun a ha => ⟨(w.heap.size, w.heap.size + 1), ha.sub (by repeat (first | exact Sub.nil _ | refine Sub.cons rfl ?_)), (a2.trans (below_setRow' _ _ _ (Nat.le_refl _))).trans (below_setRow' _ _ _ (Nat.le_succ _)), ?_, ?_⟩
      · exact (heap_setRow_other _ _ _ _ (by show w.heap.size ≠ _; omega)).trans (setRow_heap _ _ _ _ _ _ n1)
      · exact setRow_heap _ _ _ _ _ _ ((heap_setRow_other _ _ _ _ (by omega)).trans n2)
    · refine HO.val rfl rfl rfl (Runs.alloc in53) a1 ?_
      refine HL.all1 (i := 14) (by kernel_rfl) ?_
      refine HO.val rfl rfl rfl (Runs.alloc in53) a2 ?_
      rw [size_new]
      refine HL.all1 (i := 16) (by kernel_rfl) ?_
      refine HO.skip rfl rfl (RunsS.storeRow (b := w.heap.size + 1) (old := #[.pointer none, .string ⟨#[]⟩]) (e := 53) rfl rfl (all2 rfl rfl) sz53 n2 rfl) (a2.trans (below_setRow' _ _ _ (Nat.le_succ _))) ?_
      refine HL.all1 (i := 17) (by kernel_rfl) ?_
      refine HO.skip rfl rfl (RunsS.storeRow (b := w.heap.size) (old := #[.pointer none, .string ⟨#[]⟩]) (e := 53) rfl rfl (all2 rfl rfl) sz53 ((heap_setRow_other _ _ _ _ (by omega)).trans n1) rfl) ((a2.trans (below_setRow' _ _ _ (Nat.le_succ _))).trans (below_setRow' _ _ _ (Nat.le_refl _))) ?_
      refine HL.done (by kernel_rfl) ?_
      repeat (first | refine AtExit.thenRet ?_ | refine AtExit.thenExit ?_ | refine AtExit.blockRet ?_ | refine AtExit.blockEnd ?_ | refine AtExit.blockExit ?_ | (refine AtExit.blockPast ?_ ?_; rfl))
      refine AtExit.inv fun a ha => ⟨(w.heap.size + 1, w.heap.size), ha.sub (by repeat (first | exact Sub.nil _ | refine Sub.cons rfl ?_)), (a2.trans (below_setRow' _ _ _ (Nat.le_succ _))).trans (below_setRow' _ _ _ (Nat.le_refl _)), ?_, ?_⟩
      · exact (heap_setRow_other _ _ _ _ (by show w.heap.size + 1 ≠ _; omega)).trans (setRow_heap _ _ _ _ _ _ n2)
      · exact setRow_heap _ _ _ _ _ _ ((heap_setRow_other _ _ _ _ (by omega)).trans n1)
  · rintro ⟨q5, q6⟩ w2 ⟨hB2, hq5, hq6⟩
    dsimp only at hq5 hq6
    have hl5 := lt_of_heap hq5
    have hl6 := lt_of_heap hq6
    have hsz := hB2.size
    refine WC.seq (WC.region ?_)
    refine WL.val rfl rfl (Runs.fld rfl fl53_0) ?_
    refine WL.val rfl rfl (Runs.load rfl na32 (by rw [cell_of hq5]; rfl)) ?_
    refine WL.val rfl rfl (Runs.fld rfl fl53_0) ?_
    refine WL.val rfl rfl (Runs.load rfl na32 (by rw [cell_of hq6]; rfl)) ?_
    have s1 := h1.below hB2
    have s2 := h2.below hB2
    refine WL.call rfl rfl (RunsC.call rfl en10) (apart_any p1 p2 b1 b2 m1 m2 W F G w2 hm1 hm2 hW ⟨Nat.lt_of_lt_of_le s1.lt hsz, s1.fit, s1.ex.elim fun blk h => ⟨blk, h.1, fun k hk => ⟨Nat.lt_of_lt_of_le (h.2 k hk).1 hsz, (h.2 k hk).2⟩⟩⟩
      ⟨Nat.lt_of_lt_of_le s2.lt hsz, s2.fit, s2.ex.elim fun blk h => ⟨blk, h.1, fun k hk => ⟨Nat.lt_of_lt_of_le (h.2 k hk).1 hsz, (h.2 k hk).2⟩⟩⟩ (by omega) (by omega)
      ((hB2.cell (p := ⟨p1, 0 + 1, none⟩) hp1).trans hc1) ((hB2.cell (p := ⟨p2, 0 + 1, none⟩) hp2).trans hc2) i0 j0 ok0 hF0) ?_
    rintro e w3 ⟨rfl, hB3⟩
    refine ⟨_, rfl, ?_⟩
    repeat (first | (refine WL.val ?_ ?_ (Runs.move rfl) ?_; rfl; rfl) | (refine WL.val ?_ ?_ (Runs.assign rfl) ?_; rfl; rfl) | (refine WL.val ?_ ?_ (Runs.extract rfl rfl) ?_; rfl; rfl) | (refine WL.val ?_ ?_ (Runs.nilCheck rfl) ?_; rfl; rfl) | (refine WL.val ?_ ?_ (Runs.pickT rfl rfl) ?_; rfl; rfl) | (refine WL.val ?_ ?_ (Runs.pickF rfl rfl) ?_; rfl; rfl) | (refine WL.val ?_ ?_ (Runs.len rfl sl22) ?_; rfl; rfl) | (refine WL.val ?_ ?_ (Runs.len rfl sl23) ?_; rfl; rfl) | (refine WL.val ?_ ?_ (Runs.len rfl sl24) ?_; rfl; rfl) | (refine WL.val ?_ ?_ (Runs.len rfl sl26) ?_; rfl; rfl) | (refine WL.val ?_ ?_ (Runs.len rfl sl27) ?_; rfl; rfl) | (refine WL.val ?_ ?_ (Runs.len rfl sl48) ?_; rfl; rfl) | (refine WL.val ?_ ?_ (Runs.len rfl sl60) ?_; rfl; rfl) | (refine WL.pass ?_ ?_ ?_; rfl; rfl))
    refine WL.nil ?_
    repeat (first | refine AtExit.thenRet ?_ | refine AtExit.thenExit ?_ | refine AtExit.blockRet ?_ | refine AtExit.blockEnd ?_ | refine AtExit.blockExit ?_ | (refine AtExit.blockPast ?_ ?_; rfl))
    refine AtExit.go ?_
    have hsz3 := hB3.size
    have hq5' := below_heap hB3 hl5 hq5
    have hq6' := below_heap hB3 hl6 hq6
    have ht3 : Tab w3 := (ht.below hB2 ht.pos).below hB3 (by omega)
    refine WC.seq (WC.quiet (fun w' => Below w3.heap.size w3 w') mixed (by kernel_rfl) (below_drawn _ _) ?_)
    refine QL.val rfl rfl (fun wq hC => Runs.loadAgg (b := q5) (o := 0) (cs := [.pointer (some ⟨p1, 0, none⟩), .string rl]) rfl na53 sz53 (two_cells (by rw [hC.cell (p := ⟨q5, 0, none⟩) (lt_of_heap hq5'), cell_of hq5']; rfl) (by rw [hC.cell (p := ⟨q5, 0 + 1, none⟩) (lt_of_heap hq5'), cell_of hq5']; rfl))) ?_
    repeat (first | (refine QL.val ?_ ?_ (fun wq hC => Runs.move rfl) ?_; rfl; rfl) | (refine QL.val ?_ ?_ (fun wq hC => Runs.assign rfl) ?_; rfl; rfl) | (refine QL.val ?_ ?_ (fun wq hC => Runs.extract rfl rfl) ?_; rfl; rfl) | (refine QL.val ?_ ?_ (fun wq hC => Runs.nilCheck rfl) ?_; rfl; rfl) | (refine QL.val ?_ ?_ (fun wq hC => Runs.pickT rfl rfl) ?_; rfl; rfl) | (refine QL.val ?_ ?_ (fun wq hC => Runs.pickF rfl rfl) ?_; rfl; rfl) | (refine QL.val ?_ ?_ (fun wq hC => Runs.len rfl sl22) ?_; rfl; rfl) | (refine QL.val ?_ ?_ (fun wq hC => Runs.len rfl sl23) ?_; rfl; rfl) | (refine QL.val ?_ ?_ (fun wq hC => Runs.len rfl sl24) ?_; rfl; rfl) | (refine QL.val ?_ ?_ (fun wq hC => Runs.len rfl sl26) ?_; rfl; rfl) | (refine QL.val ?_ ?_ (fun wq hC => Runs.len rfl sl27) ?_; rfl; rfl) | (refine QL.val ?_ ?_ (fun wq hC => Runs.len rfl sl48) ?_; rfl; rfl) | (refine QL.val ?_ ?_ (fun wq hC => Runs.len rfl sl60) ?_; rfl; rfl) | (refine QL.pass ?_ ?_ ?_; rfl; rfl))
    refine QL.call rfl rfl (fun w' hC => RunsC.call rfl en11) (fun w' hC => (lname_any _ rl i0 w' (by omega) hrl (ht3.below hC ht3.pos)).mono fun e w4 ⟨he, hw⟩ => ⟨he, hC.trans (hw.mono hC.size)⟩) ?_
    refine QL.val rfl rfl (fun wq hC => Runs.loadAgg (b := q6) (o := 0) (cs := [.pointer (some ⟨p2, 0, none⟩), .string wl]) rfl na53 sz53 (two_cells (by rw [hC.cell (p := ⟨q6, 0, none⟩) (lt_of_heap hq6'), cell_of hq6']; rfl) (by rw [hC.cell (p := ⟨q6, 0 + 1, none⟩) (lt_of_heap hq6'), cell_of hq6']; rfl))) ?_
    repeat (first | (refine QL.val ?_ ?_ (fun wq hC => Runs.move rfl) ?_; rfl; rfl) | (refine QL.val ?_ ?_ (fun wq hC => Runs.assign rfl) ?_; rfl; rfl) | (refine QL.val ?_ ?_ (fun wq hC => Runs.extract rfl rfl) ?_; rfl; rfl) | (refine QL.val ?_ ?_ (fun wq hC => Runs.nilCheck rfl) ?_; rfl; rfl) | (refine QL.val ?_ ?_ (fun wq hC => Runs.pickT rfl rfl) ?_; rfl; rfl) | (refine QL.val ?_ ?_ (fun wq hC => Runs.pickF rfl rfl) ?_; rfl; rfl) | (refine QL.val ?_ ?_ (fun wq hC => Runs.len rfl sl22) ?_; rfl; rfl) | (refine QL.val ?_ ?_ (fun wq hC => Runs.len rfl sl23) ?_; rfl; rfl) | (refine QL.val ?_ ?_ (fun wq hC => Runs.len rfl sl24) ?_; rfl; rfl) | (refine QL.val ?_ ?_ (fun wq hC => Runs.len rfl sl26) ?_; rfl; rfl) | (refine QL.val ?_ ?_ (fun wq hC => Runs.len rfl sl27) ?_; rfl; rfl) | (refine QL.val ?_ ?_ (fun wq hC => Runs.len rfl sl48) ?_; rfl; rfl) | (refine QL.val ?_ ?_ (fun wq hC => Runs.len rfl sl60) ?_; rfl; rfl) | (refine QL.pass ?_ ?_ ?_; rfl; rfl))
    refine QL.call rfl rfl (fun w' hC => RunsC.call rfl en11) (fun w' hC => (lname_any _ wl j0 w' (by omega) hwl (ht3.below hC ht3.pos)).mono fun e w4 ⟨he, hw⟩ => ⟨he, hC.trans (hw.mono hC.size)⟩) ?_
    repeat (first | (refine QL.val ?_ ?_ (fun wq hC => Runs.move rfl) ?_; rfl; rfl) | (refine QL.val ?_ ?_ (fun wq hC => Runs.assign rfl) ?_; rfl; rfl) | (refine QL.val ?_ ?_ (fun wq hC => Runs.extract rfl rfl) ?_; rfl; rfl) | (refine QL.val ?_ ?_ (fun wq hC => Runs.nilCheck rfl) ?_; rfl; rfl) | (refine QL.val ?_ ?_ (fun wq hC => Runs.pickT rfl rfl) ?_; rfl; rfl) | (refine QL.val ?_ ?_ (fun wq hC => Runs.pickF rfl rfl) ?_; rfl; rfl) | (refine QL.val ?_ ?_ (fun wq hC => Runs.len rfl sl22) ?_; rfl; rfl) | (refine QL.val ?_ ?_ (fun wq hC => Runs.len rfl sl23) ?_; rfl; rfl) | (refine QL.val ?_ ?_ (fun wq hC => Runs.len rfl sl24) ?_; rfl; rfl) | (refine QL.val ?_ ?_ (fun wq hC => Runs.len rfl sl26) ?_; rfl; rfl) | (refine QL.val ?_ ?_ (fun wq hC => Runs.len rfl sl27) ?_; rfl; rfl) | (refine QL.val ?_ ?_ (fun wq hC => Runs.len rfl sl48) ?_; rfl; rfl) | (refine QL.val ?_ ?_ (fun wq hC => Runs.len rfl sl60) ?_; rfl; rfl) | (refine QL.pass ?_ ?_ ?_; rfl; rfl))
    refine QL.nil fun w4 hB4 => ?_
    repeat (first | refine AtExit.thenRet ?_ | refine AtExit.thenExit ?_ | refine AtExit.blockRet ?_ | refine AtExit.blockEnd ?_ | refine AtExit.blockExit ?_ | (refine AtExit.blockPast ?_ ?_; rfl))
    refine AtExit.go ?_
    refine WC.ret ?_
    repeat (first | refine AtExit.thenRet ?_ | refine AtExit.thenExit ?_ | refine AtExit.blockRet ?_ | refine AtExit.blockEnd ?_ | refine AtExit.blockExit ?_ | (refine AtExit.blockPast ?_ ?_; rfl))
    exact post3 rfl rfl rfl rfl ⟨rfl, (hB2.trans (hB3.mono hsz)).trans (hB4.mono (by omega))⟩

/-- A construction: nothing is looked at. -/
theorem dis_con (f : Nat) (u : TypeId) (v : Value) (w : World) (hcf : w.cell? ⟨f, 0 + 6, none⟩ = some (.pointer none)) (hcc : w.cell? ⟨f, 0 + 2, none⟩ = some (.iface u v)) :
    Calls Ybad.prog 7 #[.pointer (some ⟨f, 0, none⟩)] w fun e w' => e = .returned (.tuple #[.string ⟨#[]⟩, .string ⟨#[]⟩, .bool false]) ∧ w' = w := by
  refine calls_of Ybad.func7 rfl Ybad.ntmps7 rfl ?_
  refine WC.seq (WC.region ?_)
  repeat (first | (refine WL.val ?_ ?_ (Runs.move rfl) ?_; rfl; rfl) | (refine WL.val ?_ ?_ (Runs.assign rfl) ?_; rfl; rfl) | (refine WL.val ?_ ?_ (Runs.extract rfl rfl) ?_; rfl; rfl) | (refine WL.val ?_ ?_ (Runs.nilCheck rfl) ?_; rfl; rfl) | (refine WL.val ?_ ?_ (Runs.pickT rfl rfl) ?_; rfl; rfl) | (refine WL.val ?_ ?_ (Runs.pickF rfl rfl) ?_; rfl; rfl) | (refine WL.val ?_ ?_ (Runs.len rfl sl22) ?_; rfl; rfl) | (refine WL.val ?_ ?_ (Runs.len rfl sl23) ?_; rfl; rfl) | (refine WL.val ?_ ?_ (Runs.len rfl sl24) ?_; rfl; rfl) | (refine WL.val ?_ ?_ (Runs.len rfl sl26) ?_; rfl; rfl) | (refine WL.val ?_ ?_ (Runs.len rfl sl27) ?_; rfl; rfl) | (refine WL.val ?_ ?_ (Runs.len rfl sl48) ?_; rfl; rfl) | (refine WL.val ?_ ?_ (Runs.len rfl sl60) ?_; rfl; rfl) | (refine WL.pass ?_ ?_ ?_; rfl; rfl))
  refine WL.nil ?_
  repeat (first | refine AtExit.thenRet ?_ | refine AtExit.thenExit ?_ | refine AtExit.blockRet ?_ | refine AtExit.blockEnd ?_ | refine AtExit.blockExit ?_ | (refine AtExit.blockPast ?_ ?_; rfl))
  refine AtExit.go ?_
  refine WC.seq (WC.block ?_)
  refine WC.seq (WC.region ?_)
  repeat (first | (refine WL.val ?_ ?_ (Runs.move rfl) ?_; rfl; rfl) | (refine WL.val ?_ ?_ (Runs.assign rfl) ?_; rfl; rfl) | (refine WL.val ?_ ?_ (Runs.extract rfl rfl) ?_; rfl; rfl) | (refine WL.val ?_ ?_ (Runs.nilCheck rfl) ?_; rfl; rfl) | (refine WL.val ?_ ?_ (Runs.pickT rfl rfl) ?_; rfl; rfl) | (refine WL.val ?_ ?_ (Runs.pickF rfl rfl) ?_; rfl; rfl) | (refine WL.val ?_ ?_ (Runs.len rfl sl22) ?_; rfl; rfl) | (refine WL.val ?_ ?_ (Runs.len rfl sl23) ?_; rfl; rfl) | (refine WL.val ?_ ?_ (Runs.len rfl sl24) ?_; rfl; rfl) | (refine WL.val ?_ ?_ (Runs.len rfl sl26) ?_; rfl; rfl) | (refine WL.val ?_ ?_ (Runs.len rfl sl27) ?_; rfl; rfl) | (refine WL.val ?_ ?_ (Runs.len rfl sl48) ?_; rfl; rfl) | (refine WL.val ?_ ?_ (Runs.len rfl sl60) ?_; rfl; rfl) | (refine WL.pass ?_ ?_ ?_; rfl; rfl))
  refine WL.val rfl rfl (Runs.fld rfl fl44_5) ?_
  refine WL.val rfl rfl (Runs.load rfl na42 hcf) ?_
  refine WL.val rfl rfl (Runs.neqPN rfl pt42 (r := false) rfl) ?_
  repeat (first | (refine WL.val ?_ ?_ (Runs.move rfl) ?_; rfl; rfl) | (refine WL.val ?_ ?_ (Runs.assign rfl) ?_; rfl; rfl) | (refine WL.val ?_ ?_ (Runs.extract rfl rfl) ?_; rfl; rfl) | (refine WL.val ?_ ?_ (Runs.nilCheck rfl) ?_; rfl; rfl) | (refine WL.val ?_ ?_ (Runs.pickT rfl rfl) ?_; rfl; rfl) | (refine WL.val ?_ ?_ (Runs.pickF rfl rfl) ?_; rfl; rfl) | (refine WL.val ?_ ?_ (Runs.len rfl sl22) ?_; rfl; rfl) | (refine WL.val ?_ ?_ (Runs.len rfl sl23) ?_; rfl; rfl) | (refine WL.val ?_ ?_ (Runs.len rfl sl24) ?_; rfl; rfl) | (refine WL.val ?_ ?_ (Runs.len rfl sl26) ?_; rfl; rfl) | (refine WL.val ?_ ?_ (Runs.len rfl sl27) ?_; rfl; rfl) | (refine WL.val ?_ ?_ (Runs.len rfl sl48) ?_; rfl; rfl) | (refine WL.val ?_ ?_ (Runs.len rfl sl60) ?_; rfl; rfl) | (refine WL.pass ?_ ?_ ?_; rfl; rfl))
  refine WL.nil ?_
  repeat (first | refine AtExit.thenRet ?_ | refine AtExit.thenExit ?_ | refine AtExit.blockRet ?_ | refine AtExit.blockEnd ?_ | refine AtExit.blockExit ?_ | (refine AtExit.blockPast ?_ ?_; rfl))
  refine AtExit.go ?_
  refine WC.condF rfl ?_
  refine WC.seq (WC.region ?_)
  repeat (first | (refine WL.val ?_ ?_ (Runs.move rfl) ?_; rfl; rfl) | (refine WL.val ?_ ?_ (Runs.assign rfl) ?_; rfl; rfl) | (refine WL.val ?_ ?_ (Runs.extract rfl rfl) ?_; rfl; rfl) | (refine WL.val ?_ ?_ (Runs.nilCheck rfl) ?_; rfl; rfl) | (refine WL.val ?_ ?_ (Runs.pickT rfl rfl) ?_; rfl; rfl) | (refine WL.val ?_ ?_ (Runs.pickF rfl rfl) ?_; rfl; rfl) | (refine WL.val ?_ ?_ (Runs.len rfl sl22) ?_; rfl; rfl) | (refine WL.val ?_ ?_ (Runs.len rfl sl23) ?_; rfl; rfl) | (refine WL.val ?_ ?_ (Runs.len rfl sl24) ?_; rfl; rfl) | (refine WL.val ?_ ?_ (Runs.len rfl sl26) ?_; rfl; rfl) | (refine WL.val ?_ ?_ (Runs.len rfl sl27) ?_; rfl; rfl) | (refine WL.val ?_ ?_ (Runs.len rfl sl48) ?_; rfl; rfl) | (refine WL.val ?_ ?_ (Runs.len rfl sl60) ?_; rfl; rfl) | (refine WL.pass ?_ ?_ ?_; rfl; rfl))
  refine WL.val rfl rfl (Runs.fld rfl fl44_2) ?_
  refine WL.val rfl rfl (Runs.load rfl na37 hcc) ?_
  refine WL.val rfl rfl (Runs.neqIN rfl if37) ?_
  repeat (first | (refine WL.val ?_ ?_ (Runs.move rfl) ?_; rfl; rfl) | (refine WL.val ?_ ?_ (Runs.assign rfl) ?_; rfl; rfl) | (refine WL.val ?_ ?_ (Runs.extract rfl rfl) ?_; rfl; rfl) | (refine WL.val ?_ ?_ (Runs.nilCheck rfl) ?_; rfl; rfl) | (refine WL.val ?_ ?_ (Runs.pickT rfl rfl) ?_; rfl; rfl) | (refine WL.val ?_ ?_ (Runs.pickF rfl rfl) ?_; rfl; rfl) | (refine WL.val ?_ ?_ (Runs.len rfl sl22) ?_; rfl; rfl) | (refine WL.val ?_ ?_ (Runs.len rfl sl23) ?_; rfl; rfl) | (refine WL.val ?_ ?_ (Runs.len rfl sl24) ?_; rfl; rfl) | (refine WL.val ?_ ?_ (Runs.len rfl sl26) ?_; rfl; rfl) | (refine WL.val ?_ ?_ (Runs.len rfl sl27) ?_; rfl; rfl) | (refine WL.val ?_ ?_ (Runs.len rfl sl48) ?_; rfl; rfl) | (refine WL.val ?_ ?_ (Runs.len rfl sl60) ?_; rfl; rfl) | (refine WL.pass ?_ ?_ ?_; rfl; rfl))
  refine WL.nil ?_
  repeat (first | refine AtExit.thenRet ?_ | refine AtExit.thenExit ?_ | refine AtExit.blockRet ?_ | refine AtExit.blockEnd ?_ | refine AtExit.blockExit ?_ | (refine AtExit.blockPast ?_ ?_; rfl))
  refine AtExit.go ?_
  refine WC.condT rfl ?_
  refine WC.seq (WC.region ?_)
  repeat (first | (refine WL.val ?_ ?_ (Runs.move rfl) ?_; rfl; rfl) | (refine WL.val ?_ ?_ (Runs.assign rfl) ?_; rfl; rfl) | (refine WL.val ?_ ?_ (Runs.extract rfl rfl) ?_; rfl; rfl) | (refine WL.val ?_ ?_ (Runs.nilCheck rfl) ?_; rfl; rfl) | (refine WL.val ?_ ?_ (Runs.pickT rfl rfl) ?_; rfl; rfl) | (refine WL.val ?_ ?_ (Runs.pickF rfl rfl) ?_; rfl; rfl) | (refine WL.val ?_ ?_ (Runs.len rfl sl22) ?_; rfl; rfl) | (refine WL.val ?_ ?_ (Runs.len rfl sl23) ?_; rfl; rfl) | (refine WL.val ?_ ?_ (Runs.len rfl sl24) ?_; rfl; rfl) | (refine WL.val ?_ ?_ (Runs.len rfl sl26) ?_; rfl; rfl) | (refine WL.val ?_ ?_ (Runs.len rfl sl27) ?_; rfl; rfl) | (refine WL.val ?_ ?_ (Runs.len rfl sl48) ?_; rfl; rfl) | (refine WL.val ?_ ?_ (Runs.len rfl sl60) ?_; rfl; rfl) | (refine WL.pass ?_ ?_ ?_; rfl; rfl))
  refine WL.nil ?_
  repeat (first | refine AtExit.thenRet ?_ | refine AtExit.thenExit ?_ | refine AtExit.blockRet ?_ | refine AtExit.blockEnd ?_ | refine AtExit.blockExit ?_ | (refine AtExit.blockPast ?_ ?_; rfl))
  refine AtExit.go ?_
  refine WC.ret ?_
  repeat (first | refine AtExit.thenRet ?_ | refine AtExit.thenExit ?_ | refine AtExit.blockRet ?_ | refine AtExit.blockEnd ?_ | refine AtExit.blockExit ?_ | (refine AtExit.blockPast ?_ ?_; rfl))
  exact post3 rfl rfl rfl rfl ⟨rfl, rfl⟩

/-- One family. -/
theorem dis_fam (f p1 b1 m1 W : Nat) (F : Nat → Nat → Nat) (w : World) (ht : Tab w) (hm1 : m1 ≤ 1024) (hW : W ≤ 3) (h1 : SetsAt w w.heap.size b1 m1 W F) (hp1 : p1 < w.heap.size)
    (hcf : w.cell? ⟨f, 0 + 6, none⟩ = some (.pointer none)) (hcc : w.cell? ⟨f, 0 + 2, none⟩ = some .nilIface) (hcm : w.cell? ⟨f, 0 + 3, none⟩ = some (.pointer (some ⟨p1, 0, none⟩)))
    (hc1 : w.cell? ⟨p1, 0 + 1, none⟩ = some (.slice (some ⟨b1, 0, none⟩) m1 m1)) (i0 j0 : Nat) (ok0 : Bool) (hi0 : i0 ≤ 1024) (hj0 : j0 ≤ 1024) (hF0 : FirstAt (apart W F F) (fun i => i + 1) m1 m1 i0 j0 ok0) :
    Calls Ybad.prog 7 #[.pointer (some ⟨f, 0, none⟩)] w fun e w' => e = .returned (.tuple #[.string (⟨#[81]⟩ ++ dec (i0 + 1)), .string (⟨#[81]⟩ ++ dec (j0 + 1)), .bool ok0]) ∧ Below w.heap.size w w' := by
  refine calls_of Ybad.func7 rfl Ybad.ntmps7 rfl ?_
  refine WC.seq (WC.region ?_)
  repeat (first | (refine WL.val ?_ ?_ (Runs.move rfl) ?_; rfl; rfl) | (refine WL.val ?_ ?_ (Runs.assign rfl) ?_; rfl; rfl) | (refine WL.val ?_ ?_ (Runs.extract rfl rfl) ?_; rfl; rfl) | (refine WL.val ?_ ?_ (Runs.nilCheck rfl) ?_; rfl; rfl) | (refine WL.val ?_ ?_ (Runs.pickT rfl rfl) ?_; rfl; rfl) | (refine WL.val ?_ ?_ (Runs.pickF rfl rfl) ?_; rfl; rfl) | (refine WL.val ?_ ?_ (Runs.len rfl sl22) ?_; rfl; rfl) | (refine WL.val ?_ ?_ (Runs.len rfl sl23) ?_; rfl; rfl) | (refine WL.val ?_ ?_ (Runs.len rfl sl24) ?_; rfl; rfl) | (refine WL.val ?_ ?_ (Runs.len rfl sl26) ?_; rfl; rfl) | (refine WL.val ?_ ?_ (Runs.len rfl sl27) ?_; rfl; rfl) | (refine WL.val ?_ ?_ (Runs.len rfl sl48) ?_; rfl; rfl) | (refine WL.val ?_ ?_ (Runs.len rfl sl60) ?_; rfl; rfl) | (refine WL.pass ?_ ?_ ?_; rfl; rfl))
  refine WL.nil ?_
  repeat (first | refine AtExit.thenRet ?_ | refine AtExit.thenExit ?_ | refine AtExit.blockRet ?_ | refine AtExit.blockEnd ?_ | refine AtExit.blockExit ?_ | (refine AtExit.blockPast ?_ ?_; rfl))
  refine AtExit.go ?_
  refine WC.seq (WC.block ?_)
  refine WC.seq (WC.region ?_)
  repeat (first | (refine WL.val ?_ ?_ (Runs.move rfl) ?_; rfl; rfl) | (refine WL.val ?_ ?_ (Runs.assign rfl) ?_; rfl; rfl) | (refine WL.val ?_ ?_ (Runs.extract rfl rfl) ?_; rfl; rfl) | (refine WL.val ?_ ?_ (Runs.nilCheck rfl) ?_; rfl; rfl) | (refine WL.val ?_ ?_ (Runs.pickT rfl rfl) ?_; rfl; rfl) | (refine WL.val ?_ ?_ (Runs.pickF rfl rfl) ?_; rfl; rfl) | (refine WL.val ?_ ?_ (Runs.len rfl sl22) ?_; rfl; rfl) | (refine WL.val ?_ ?_ (Runs.len rfl sl23) ?_; rfl; rfl) | (refine WL.val ?_ ?_ (Runs.len rfl sl24) ?_; rfl; rfl) | (refine WL.val ?_ ?_ (Runs.len rfl sl26) ?_; rfl; rfl) | (refine WL.val ?_ ?_ (Runs.len rfl sl27) ?_; rfl; rfl) | (refine WL.val ?_ ?_ (Runs.len rfl sl48) ?_; rfl; rfl) | (refine WL.val ?_ ?_ (Runs.len rfl sl60) ?_; rfl; rfl) | (refine WL.pass ?_ ?_ ?_; rfl; rfl))
  refine WL.val rfl rfl (Runs.fld rfl fl44_5) ?_
  refine WL.val rfl rfl (Runs.load rfl na42 hcf) ?_
  refine WL.val rfl rfl (Runs.neqPN rfl pt42 (r := false) rfl) ?_
  repeat (first | (refine WL.val ?_ ?_ (Runs.move rfl) ?_; rfl; rfl) | (refine WL.val ?_ ?_ (Runs.assign rfl) ?_; rfl; rfl) | (refine WL.val ?_ ?_ (Runs.extract rfl rfl) ?_; rfl; rfl) | (refine WL.val ?_ ?_ (Runs.nilCheck rfl) ?_; rfl; rfl) | (refine WL.val ?_ ?_ (Runs.pickT rfl rfl) ?_; rfl; rfl) | (refine WL.val ?_ ?_ (Runs.pickF rfl rfl) ?_; rfl; rfl) | (refine WL.val ?_ ?_ (Runs.len rfl sl22) ?_; rfl; rfl) | (refine WL.val ?_ ?_ (Runs.len rfl sl23) ?_; rfl; rfl) | (refine WL.val ?_ ?_ (Runs.len rfl sl24) ?_; rfl; rfl) | (refine WL.val ?_ ?_ (Runs.len rfl sl26) ?_; rfl; rfl) | (refine WL.val ?_ ?_ (Runs.len rfl sl27) ?_; rfl; rfl) | (refine WL.val ?_ ?_ (Runs.len rfl sl48) ?_; rfl; rfl) | (refine WL.val ?_ ?_ (Runs.len rfl sl60) ?_; rfl; rfl) | (refine WL.pass ?_ ?_ ?_; rfl; rfl))
  refine WL.nil ?_
  repeat (first | refine AtExit.thenRet ?_ | refine AtExit.thenExit ?_ | refine AtExit.blockRet ?_ | refine AtExit.blockEnd ?_ | refine AtExit.blockExit ?_ | (refine AtExit.blockPast ?_ ?_; rfl))
  refine AtExit.go ?_
  refine WC.condF rfl ?_
  refine WC.seq (WC.region ?_)
  repeat (first | (refine WL.val ?_ ?_ (Runs.move rfl) ?_; rfl; rfl) | (refine WL.val ?_ ?_ (Runs.assign rfl) ?_; rfl; rfl) | (refine WL.val ?_ ?_ (Runs.extract rfl rfl) ?_; rfl; rfl) | (refine WL.val ?_ ?_ (Runs.nilCheck rfl) ?_; rfl; rfl) | (refine WL.val ?_ ?_ (Runs.pickT rfl rfl) ?_; rfl; rfl) | (refine WL.val ?_ ?_ (Runs.pickF rfl rfl) ?_; rfl; rfl) | (refine WL.val ?_ ?_ (Runs.len rfl sl22) ?_; rfl; rfl) | (refine WL.val ?_ ?_ (Runs.len rfl sl23) ?_; rfl; rfl) | (refine WL.val ?_ ?_ (Runs.len rfl sl24) ?_; rfl; rfl) | (refine WL.val ?_ ?_ (Runs.len rfl sl26) ?_; rfl; rfl) | (refine WL.val ?_ ?_ (Runs.len rfl sl27) ?_; rfl; rfl) | (refine WL.val ?_ ?_ (Runs.len rfl sl48) ?_; rfl; rfl) | (refine WL.val ?_ ?_ (Runs.len rfl sl60) ?_; rfl; rfl) | (refine WL.pass ?_ ?_ ?_; rfl; rfl))
  refine WL.val rfl rfl (Runs.fld rfl fl44_2) ?_
  refine WL.val rfl rfl (Runs.load rfl na37 hcc) ?_
  refine WL.val rfl rfl (Runs.neqNN rfl if37) ?_
  repeat (first | (refine WL.val ?_ ?_ (Runs.move rfl) ?_; rfl; rfl) | (refine WL.val ?_ ?_ (Runs.assign rfl) ?_; rfl; rfl) | (refine WL.val ?_ ?_ (Runs.extract rfl rfl) ?_; rfl; rfl) | (refine WL.val ?_ ?_ (Runs.nilCheck rfl) ?_; rfl; rfl) | (refine WL.val ?_ ?_ (Runs.pickT rfl rfl) ?_; rfl; rfl) | (refine WL.val ?_ ?_ (Runs.pickF rfl rfl) ?_; rfl; rfl) | (refine WL.val ?_ ?_ (Runs.len rfl sl22) ?_; rfl; rfl) | (refine WL.val ?_ ?_ (Runs.len rfl sl23) ?_; rfl; rfl) | (refine WL.val ?_ ?_ (Runs.len rfl sl24) ?_; rfl; rfl) | (refine WL.val ?_ ?_ (Runs.len rfl sl26) ?_; rfl; rfl) | (refine WL.val ?_ ?_ (Runs.len rfl sl27) ?_; rfl; rfl) | (refine WL.val ?_ ?_ (Runs.len rfl sl48) ?_; rfl; rfl) | (refine WL.val ?_ ?_ (Runs.len rfl sl60) ?_; rfl; rfl) | (refine WL.pass ?_ ?_ ?_; rfl; rfl))
  refine WL.nil ?_
  repeat (first | refine AtExit.thenRet ?_ | refine AtExit.thenExit ?_ | refine AtExit.blockRet ?_ | refine AtExit.blockEnd ?_ | refine AtExit.blockExit ?_ | (refine AtExit.blockPast ?_ ?_; rfl))
  refine AtExit.go ?_
  refine WC.condF rfl ?_
  refine WC.skip ?_
  repeat (first | refine AtExit.thenRet ?_ | refine AtExit.thenExit ?_ | refine AtExit.blockRet ?_ | refine AtExit.blockEnd ?_ | refine AtExit.blockExit ?_ | (refine AtExit.blockPast ?_ ?_; rfl))
  refine AtExit.go ?_
  refine WC.seq (WC.region ?_)
  repeat (first | (refine WL.val ?_ ?_ (Runs.move rfl) ?_; rfl; rfl) | (refine WL.val ?_ ?_ (Runs.assign rfl) ?_; rfl; rfl) | (refine WL.val ?_ ?_ (Runs.extract rfl rfl) ?_; rfl; rfl) | (refine WL.val ?_ ?_ (Runs.nilCheck rfl) ?_; rfl; rfl) | (refine WL.val ?_ ?_ (Runs.pickT rfl rfl) ?_; rfl; rfl) | (refine WL.val ?_ ?_ (Runs.pickF rfl rfl) ?_; rfl; rfl) | (refine WL.val ?_ ?_ (Runs.len rfl sl22) ?_; rfl; rfl) | (refine WL.val ?_ ?_ (Runs.len rfl sl23) ?_; rfl; rfl) | (refine WL.val ?_ ?_ (Runs.len rfl sl24) ?_; rfl; rfl) | (refine WL.val ?_ ?_ (Runs.len rfl sl26) ?_; rfl; rfl) | (refine WL.val ?_ ?_ (Runs.len rfl sl27) ?_; rfl; rfl) | (refine WL.val ?_ ?_ (Runs.len rfl sl48) ?_; rfl; rfl) | (refine WL.val ?_ ?_ (Runs.len rfl sl60) ?_; rfl; rfl) | (refine WL.pass ?_ ?_ ?_; rfl; rfl))
  refine WL.val rfl rfl (Runs.fld rfl fl44_3) ?_
  refine WL.val rfl rfl (Runs.load rfl na32 hcm) ?_
  refine WL.call rfl rfl (RunsC.call rfl en12) (disj_any p1 b1 m1 W F w hm1 hW h1 hp1 hc1 i0 j0 ok0 hF0) ?_
  rintro e w2 ⟨rfl, hB2⟩
  refine ⟨_, rfl, ?_⟩
  repeat (first | (refine WL.val ?_ ?_ (Runs.move rfl) ?_; rfl; rfl) | (refine WL.val ?_ ?_ (Runs.assign rfl) ?_; rfl; rfl) | (refine WL.val ?_ ?_ (Runs.extract rfl rfl) ?_; rfl; rfl) | (refine WL.val ?_ ?_ (Runs.nilCheck rfl) ?_; rfl; rfl) | (refine WL.val ?_ ?_ (Runs.pickT rfl rfl) ?_; rfl; rfl) | (refine WL.val ?_ ?_ (Runs.pickF rfl rfl) ?_; rfl; rfl) | (refine WL.val ?_ ?_ (Runs.len rfl sl22) ?_; rfl; rfl) | (refine WL.val ?_ ?_ (Runs.len rfl sl23) ?_; rfl; rfl) | (refine WL.val ?_ ?_ (Runs.len rfl sl24) ?_; rfl; rfl) | (refine WL.val ?_ ?_ (Runs.len rfl sl26) ?_; rfl; rfl) | (refine WL.val ?_ ?_ (Runs.len rfl sl27) ?_; rfl; rfl) | (refine WL.val ?_ ?_ (Runs.len rfl sl48) ?_; rfl; rfl) | (refine WL.val ?_ ?_ (Runs.len rfl sl60) ?_; rfl; rfl) | (refine WL.pass ?_ ?_ ?_; rfl; rfl))
  refine WL.nil ?_
  repeat (first | refine AtExit.thenRet ?_ | refine AtExit.thenExit ?_ | refine AtExit.blockRet ?_ | refine AtExit.blockEnd ?_ | refine AtExit.blockExit ?_ | (refine AtExit.blockPast ?_ ?_; rfl))
  refine AtExit.go ?_
  refine WC.seq (WC.region ?_)
  repeat (first | (refine WL.val ?_ ?_ (Runs.move rfl) ?_; rfl; rfl) | (refine WL.val ?_ ?_ (Runs.assign rfl) ?_; rfl; rfl) | (refine WL.val ?_ ?_ (Runs.extract rfl rfl) ?_; rfl; rfl) | (refine WL.val ?_ ?_ (Runs.nilCheck rfl) ?_; rfl; rfl) | (refine WL.val ?_ ?_ (Runs.pickT rfl rfl) ?_; rfl; rfl) | (refine WL.val ?_ ?_ (Runs.pickF rfl rfl) ?_; rfl; rfl) | (refine WL.val ?_ ?_ (Runs.len rfl sl22) ?_; rfl; rfl) | (refine WL.val ?_ ?_ (Runs.len rfl sl23) ?_; rfl; rfl) | (refine WL.val ?_ ?_ (Runs.len rfl sl24) ?_; rfl; rfl) | (refine WL.val ?_ ?_ (Runs.len rfl sl26) ?_; rfl; rfl) | (refine WL.val ?_ ?_ (Runs.len rfl sl27) ?_; rfl; rfl) | (refine WL.val ?_ ?_ (Runs.len rfl sl48) ?_; rfl; rfl) | (refine WL.val ?_ ?_ (Runs.len rfl sl60) ?_; rfl; rfl) | (refine WL.pass ?_ ?_ ?_; rfl; rfl))
  refine WL.call rfl rfl (RunsC.call rfl en13) (qname_any i0 w2 (by omega) (ht.below hB2 ht.pos)) ?_
  rintro e w3 ⟨rfl, hB3⟩
  refine ⟨_, rfl, ?_⟩
  repeat (first | (refine WL.val ?_ ?_ (Runs.move rfl) ?_; rfl; rfl) | (refine WL.val ?_ ?_ (Runs.assign rfl) ?_; rfl; rfl) | (refine WL.val ?_ ?_ (Runs.extract rfl rfl) ?_; rfl; rfl) | (refine WL.val ?_ ?_ (Runs.nilCheck rfl) ?_; rfl; rfl) | (refine WL.val ?_ ?_ (Runs.pickT rfl rfl) ?_; rfl; rfl) | (refine WL.val ?_ ?_ (Runs.pickF rfl rfl) ?_; rfl; rfl) | (refine WL.val ?_ ?_ (Runs.len rfl sl22) ?_; rfl; rfl) | (refine WL.val ?_ ?_ (Runs.len rfl sl23) ?_; rfl; rfl) | (refine WL.val ?_ ?_ (Runs.len rfl sl24) ?_; rfl; rfl) | (refine WL.val ?_ ?_ (Runs.len rfl sl26) ?_; rfl; rfl) | (refine WL.val ?_ ?_ (Runs.len rfl sl27) ?_; rfl; rfl) | (refine WL.val ?_ ?_ (Runs.len rfl sl48) ?_; rfl; rfl) | (refine WL.val ?_ ?_ (Runs.len rfl sl60) ?_; rfl; rfl) | (refine WL.pass ?_ ?_ ?_; rfl; rfl))
  have hB23 := hB2.trans (hB3.mono hB2.size)
  refine WL.call rfl rfl (RunsC.call rfl en13) (qname_any j0 w3 (by omega) (ht.below hB23 ht.pos)) ?_
  rintro e w4 ⟨rfl, hB4⟩
  refine ⟨_, rfl, ?_⟩
  repeat (first | (refine WL.val ?_ ?_ (Runs.move rfl) ?_; rfl; rfl) | (refine WL.val ?_ ?_ (Runs.assign rfl) ?_; rfl; rfl) | (refine WL.val ?_ ?_ (Runs.extract rfl rfl) ?_; rfl; rfl) | (refine WL.val ?_ ?_ (Runs.nilCheck rfl) ?_; rfl; rfl) | (refine WL.val ?_ ?_ (Runs.pickT rfl rfl) ?_; rfl; rfl) | (refine WL.val ?_ ?_ (Runs.pickF rfl rfl) ?_; rfl; rfl) | (refine WL.val ?_ ?_ (Runs.len rfl sl22) ?_; rfl; rfl) | (refine WL.val ?_ ?_ (Runs.len rfl sl23) ?_; rfl; rfl) | (refine WL.val ?_ ?_ (Runs.len rfl sl24) ?_; rfl; rfl) | (refine WL.val ?_ ?_ (Runs.len rfl sl26) ?_; rfl; rfl) | (refine WL.val ?_ ?_ (Runs.len rfl sl27) ?_; rfl; rfl) | (refine WL.val ?_ ?_ (Runs.len rfl sl48) ?_; rfl; rfl) | (refine WL.val ?_ ?_ (Runs.len rfl sl60) ?_; rfl; rfl) | (refine WL.pass ?_ ?_ ?_; rfl; rfl))
  refine WL.nil ?_
  repeat (first | refine AtExit.thenRet ?_ | refine AtExit.thenExit ?_ | refine AtExit.blockRet ?_ | refine AtExit.blockEnd ?_ | refine AtExit.blockExit ?_ | (refine AtExit.blockPast ?_ ?_; rfl))
  refine AtExit.go ?_
  refine WC.ret ?_
  repeat (first | refine AtExit.thenRet ?_ | refine AtExit.thenExit ?_ | refine AtExit.blockRet ?_ | refine AtExit.blockEnd ?_ | refine AtExit.blockExit ?_ | (refine AtExit.blockPast ?_ ?_; rfl))
  exact post3 rfl rfl rfl rfl ⟨rfl, hB23.trans (hB4.mono hB23.size)⟩
end Go.Proofs.YbulkgfagDoor
