/- The law's arguments; small closed facts. -/
import Derived.Test.YbulkgfdmOff
namespace Go.Proofs.Ybulkgfdm
open Go Go.Fr Go.RowKit

def OpsAt (w : World) (B : Nat) (A : Option Addr) (m : Nat) (kd ky : Nat → Nat) (dd : Nat → Int) : Prop := ∀ i, i < m → ∃ b o, A = some ⟨b, o, none⟩ ∧ b < B ∧ w.cell? ⟨b, o + i * 3 + 0, none⟩ = some (.int .u8 (kd i : Int)) ∧ w.cell? ⟨b, o + i * 3 + 1, none⟩ = some (.int .u8 (ky i : Int)) ∧ w.cell? ⟨b, o + i * 3 + 2, none⟩ = some (.int .i64 (dd i))
def SessAt (w : World) (B : Nat) (A : Option Addr) (m : Nat) (sa sp : Nat → Int) (sd : Nat → ByteArray) : Prop := ∀ i, i < m → ∃ b o, A = some ⟨b, o, none⟩ ∧ b < B ∧ w.cell? ⟨b, o + i * 3 + 0, none⟩ = some (.int .u8 (sa i)) ∧ w.cell? ⟨b, o + i * 3 + 1, none⟩ = some (.int .u8 (sp i)) ∧ w.cell? ⟨b, o + i * 3 + 2, none⟩ = some (.string (sd i))
theorem cell_below {B : Nat} {w w' : World} (hb : Below B w w') {a : Addr} (ha : a.block < B) : w'.cell? a = w.cell? a := by
  unfold World.cell?
  rw [hb.block a.block ha]
theorem OpsAt.below {w w' : World} {B : Nat} {A : Option Addr} {m : Nat} {kd ky : Nat → Nat} {dd : Nat → Int} (h : OpsAt w B A m kd ky dd) (hb : Below B w w') : OpsAt w' B A m kd ky dd := fun i hi => by
  obtain ⟨b, o, h1, h2, h3, h4, h5⟩ := h i hi
  exact ⟨b, o, h1, h2, by rw [cell_below hb h2]; exact h3, by rw [cell_below hb h2]; exact h4, by rw [cell_below hb h2]; exact h5⟩
theorem SessAt.below {w w' : World} {B : Nat} {A : Option Addr} {m : Nat} {sa sp : Nat → Int} {sd : Nat → ByteArray} (h : SessAt w B A m sa sp sd) (hb : Below B w w') : SessAt w' B A m sa sp sd := fun i hi => by
  obtain ⟨b, o, h1, h2, h3, h4, h5⟩ := h i hi
  exact ⟨b, o, h1, h2, by rw [cell_below hb h2]; exact h3, by rw [cell_below hb h2]; exact h4, by rw [cell_below hb h2]; exact h5⟩
theorem three_cells {w : World} {b o i : Nat} {x y z : Value} (h0 : w.cell? ⟨b, o + i * 3 + 0, none⟩ = some x) (h1 : w.cell? ⟨b, o + i * 3 + 1, none⟩ = some y) (h2 : w.cell? ⟨b, o + i * 3 + 2, none⟩ = some z) :
    ∀ j v, [x, y, z][j]? = some v → w.cell? ⟨b, o + i * 3 + j, none⟩ = some v := by
  intro j v hv
  match j, hv with
  | 0, hv => rw [h0]; exact hv
  | 1, hv => rw [h1]; exact hv
  | 2, hv => rw [h2]; exact hv
theorem Runs.idxK {P : Program} {n : Nat} {l : List (Nat × Value)} {w : World} {ty : TypeId} {t e : TypeId} {x i : Operand} {k : IntKind} {A : Option Addr} {b o len cap m sz : Nat} {j : Int} (hA : A = some ⟨b, o, none⟩) (hx : ev l x = some (.slice A len cap)) (hi : ev l i = some (.int k j))
    (ht : P.underlying t = some (.slice e)) (hs : sizeB P e = some sz) (hj : j = (m : Int)) (hm : m < len) :
    Runs P n l (.indexAddr t x i) ty w (.pointer (some ⟨b, o + m * sz, none⟩)) w := by subst hA; exact Runs.idx hx hi ht hs hj hm

/-- A number of nanoseconds within bounds. -/
def nrm (x : Int) : Int := (IntKind.u64.wrap x).tmod 1125899906842624
theorem nrm_bounds (x : Int) : 0 ≤ nrm x ∧ nrm x < 1125899906842624 := by
  unfold nrm
  have h : 0 ≤ IntKind.u64.wrap x := by rw [IntKind.wrap_u64]; omega
  rw [Int.tmod_eq_emod_of_nonneg h]
  omega
theorem built30 (T : Int) : Yba.prog.built 30 [(0, .int .i64 T)] = some #[.int .i64 T, .slice none 0 0, .int .u64 0] := by kernel_rfl
def tabT : Array Value := #[.string (tB 0), .string (tB 1), .string (tB 2)]
def tabD : Array Value := #[.string (dB 0), .string (dB 1), .string (dB 2)]
theorem built37 : Yba.prog.built 37 [(0, .string (tB 0)), (1, .string (tB 1)), (2, .string (tB 2))] = some tabT := by kernel_rfl
theorem built38 : Yba.prog.built 38 [(0, .string (dB 0)), (1, .string (dB 1)), (2, .string (dB 2))] = some tabD := by kernel_rfl
theorem tabT_at : ∀ j : Nat, j < 3 → tabT[j]? = some (.string (tB j))
  | 0, _ => rfl
  | 1, _ => rfl
  | 2, _ => rfl
theorem tabD_at : ∀ j : Nat, j < 3 → tabD[j]? = some (.string (dB j))
  | 0, _ => rfl
  | 1, _ => rfl
  | 2, _ => rfl
theorem built48 (a b : ByteArray) : Yba.prog.built 48 [(0, .string a), (1, .string b)] = some #[.string a, .string b, .int .u8 0, .int .u32 0, .bool false, .bool false] := by kernel_rfl

/-- What the law notes of a timer that it started: its key, its time, its number. -/
abbrev Ent := Nat × Int × Nat
def entC (e : Ent) : List Value := kc e.1 ++ [.int .i64 e.2.1, .int .i64 (e.2.2 : Int)]
theorem entC_len (e : Ent) : (entC e).length = 8 := rfl
theorem entC_one (e : Ent) : ∀ u ∈ entC e, u.oneCell' = true := by
  intro u hu
  rcases List.mem_append.1 hu with h | h
  · exact kc_one _ u h
  · simp only [List.mem_cons, List.not_mem_nil, or_false] at h
    rcases h with rfl | rfl <;> rfl
theorem built61 (x : Nat) (d : Int) (s : Nat) : Yba.prog.built 61 [(0, kv x), (1, .int .i64 d), (2, .int .i64 (s : Int))] = some (entC (x, d, s)).toArray := by kernel_rfl
def en (inf : Nat → TI) (now : Int) (p : Nat × Nat) : Ent := (p.1, (inf p.2).due - now, (inf p.2).start - 1)
def fC (t : Nat) : List Value := [pv t]
theorem fC_len (t : Nat) : (fC t).length = 1 := rfl
theorem fC_one (t : Nat) : ∀ u ∈ fC t, u.oneCell' = true := by
  intro u hu
  rw [List.mem_singleton.1 hu]; rfl
def keyOf (k : Nat) : Nat := k % 3 + 3 * (k / 3 % 3)
theorem keyOf_lt (k : Nat) : keyOf k < 9 := by unfold keyOf; omega
theorem keyOf_mod (k : Nat) : keyOf k % 3 = k % 3 := by unfold keyOf; omega
theorem keyOf_div (k : Nat) : keyOf k / 3 = k / 3 % 3 := by unfold keyOf; omega
theorem pt5 : Yba.prog.underlying 24 = Yba.prog.underlying 2 := by kernel_rfl
end Go.Proofs.Ybulkgfdm
