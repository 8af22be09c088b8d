/- Rows of cells, []Set, [][]bool; the plain functions that say what the sets and the bools hold. -/
import Derived.Test.YbulkgfagDoorItoa
namespace Go.Proofs.YbulkgfagDoor
open Go Go.Fr Go.RowKit

/-- Block b is a row of m cells of type t, none frozen; cell j holds f j. -/
structure Row (w : World) (b : Nat) (t : TypeId) (m : Nat) (f : Nat → Value) : Prop where
  ex : ∃ c : Array Value, w.heap[b]? = some (.cells c t (0, 0)) ∧ c.size = m ∧ ∀ j, j < m → c[j]? = some (f j)

section
variable {w w' : World} {b : Nat} {t : TypeId} {m : Nat} {f : Nat → Value}
theorem Row.cell (h : Row w b t m f) {j : Nat} (hj : j < m) : w.cell? ⟨b, j, none⟩ = some (f j) := by
  obtain ⟨c, hc, _, hf⟩ := h.ex
  rw [cell_of hc]; exact hf j hj
theorem Row.cell0 (h : Row w b t m f) {j : Nat} (hj : j < m) : w.cell? ⟨b, 0 + j, none⟩ = some (f j) := by rw [Nat.zero_add]; exact h.cell hj
theorem Row.frozen (h : Row w b t m f) (j : Nat) : w.frozen? ⟨b, j, none⟩ = false := by
  obtain ⟨c, hc, _, _⟩ := h.ex
  exact frozen_of hc
theorem Row.lt (h : Row w b t m f) : b < w.heap.size := by
  obtain ⟨c, hc, _, _⟩ := h.ex
  exact lt_of_heap hc
theorem Row.made (w : World) (t : TypeId) (m : Nat) (z : Value) : Row (w.alloc (.cells (Array.replicate m z) t)) w.heap.size t m (fun _ => z) :=
  ⟨_, heap_new _ _, by simp, fun j hj => by simp [hj]⟩
theorem Row.alloc (h : Row w b t m f) (o : Obj) : Row (w.alloc o) b t m f := by
  obtain ⟨c, hc, hs, hf⟩ := h.ex
  exact ⟨c, heap_old hc, hs, hf⟩
theorem Row.drew (h : Row w b t m f) : Row w.drew b t m f := ⟨h.ex⟩
theorem Row.below {B : Nat} (h : Row w b t m f) (hB : Below B w w') (hb : b < B) : Row w' b t m f := by
  obtain ⟨c, hc, hs, hf⟩ := h.ex
  exact ⟨c, below_heap hB hb hc, hs, hf⟩
theorem Row.congr {g : Nat → Value} (h : Row w b t m f) (hg : ∀ j, j < m → f j = g j) : Row w b t m g := by
  obtain ⟨c, hc, hs, hf⟩ := h.ex
  exact ⟨c, hc, hs, fun j hj => by rw [hf j hj, hg j hj]⟩
theorem Row.set (h : Row w b t m f) (i : Nat) (v : Value) : Row (w.setCell ⟨b, i, none⟩ v) b t m (fun j => if j = i then v else f j) := by
  obtain ⟨c, hc, hs, hf⟩ := h.ex
  refine ⟨_, heap_set hc, by simp [hs], fun j hj => ?_⟩
  rw [Array.getElem?_setIfInBounds]
  by_cases hij : i = j
  · subst hij; rw [if_pos rfl, if_pos (by omega), if_pos rfl]
  · rw [if_neg hij, if_neg (by omega)]; exact hf j hj
theorem Row.other (h : Row w b t m f) {a : Addr} (v : Value) (hb : b ≠ a.block) : Row (w.setCell a v) b t m f := by
  obtain ⟨c, hc, hs, hf⟩ := h.ex
  exact ⟨c, heap_set_other hc hb, hs, hf⟩
end

/-- A store leaves all that lies below. -/
theorem below_set (w : World) {a : Addr} (v : Value) {B : Nat} (h : B ≤ a.block) : Below B w (w.setCell a v) := (Below.refl _ _).setCell h v
theorem below_new (w : World) (o : Obj) {B : Nat} (h : B ≤ w.heap.size) : Below B w (w.alloc o) := (Below.refl _ _).alloc h o

/-- A []Set: m sets of W words, the k-th's word j being F k j; all of it lies below block N. -/
structure SetsAt (w : World) (N b m W : Nat) (F : Nat → Nat → Nat) : Prop where
  lt : b < N
  fit : ∀ k j, F k j < 18446744073709551616
  ex : ∃ blk : Nat → Nat, Row w b 60 m (fun k => .slice (some ⟨blk k, 0, none⟩) W W) ∧ ∀ k, k < m → blk k < N ∧ Row w (blk k) 61 W (fun j => .int .u64 (F k j : Int))
/-- A [][]bool. -/
structure BoolsAt (w : World) (N b m n : Nat) (G : Nat → Nat → Bool) : Prop where
  lt : b < N
  ex : ∃ blk : Nat → Nat, Row w b 48 m (fun k => .slice (some ⟨blk k, 0, none⟩) n n) ∧ ∀ k, k < m → blk k < N ∧ Row w (blk k) 4 n (fun j => .bool (G k j))

theorem SetsAt.below {w w' : World} {N b m W : Nat} {F : Nat → Nat → Nat} (h : SetsAt w N b m W F) (hB : Below N w w') : SetsAt w' N b m W F := by
  obtain ⟨hlt, hfit, blk, h1, h2⟩ := h
  exact ⟨hlt, hfit, blk, h1.below hB hlt, fun k hk => ⟨(h2 k hk).1, (h2 k hk).2.below hB (h2 k hk).1⟩⟩
theorem BoolsAt.below {w w' : World} {N b m n : Nat} {G : Nat → Nat → Bool} (h : BoolsAt w N b m n G) (hB : Below N w w') : BoolsAt w' N b m n G := by
  obtain ⟨hlt, blk, h1, h2⟩ := h
  exact ⟨hlt, blk, h1.below hB hlt, fun k hk => ⟨(h2 k hk).1, (h2 k hk).2.below hB (h2 k hk).1⟩⟩

/-- What the argument reads as: m rows, the k-th holding the bytes R k. -/
def RowsAt (w : World) (N : Nat) (A : Option Addr) (m : Nat) (R : Nat → List Nat) : Prop :=
  ∀ k, k < m → ∃ (b o : Nat) (Ak : Option Addr) (Ck : Nat), A = some ⟨b, o, none⟩ ∧ b < N ∧ w.cell? ⟨b, o + k, none⟩ = some (.slice Ak (R k).length Ck) ∧
    ∀ (i x : Nat), (R k)[i]? = some x → x < 256 ∧ ∃ (b' o' : Nat), Ak = some ⟨b', o', none⟩ ∧ b' < N ∧ w.cell? ⟨b', o' + i, none⟩ = some (.int .u8 (x : Int))
theorem RowsAt.below {w w' : World} {N : Nat} {A : Option Addr} {m : Nat} {R : Nat → List Nat} (h : RowsAt w N A m R) (hB : Below N w w') : RowsAt w' N A m R := by
  intro k hk
  obtain ⟨b, o, Ak, Ck, h1, h2, h3, h4⟩ := h k hk
  refine ⟨b, o, Ak, Ck, h1, h2, by rw [hB.cell (p := ⟨b, o + k, none⟩) h2]; exact h3, fun i x hx => ?_⟩
  obtain ⟨h5, b', o', h6, h7, h8⟩ := h4 i x hx
  exact ⟨h5, b', o', h6, h7, by rw [hB.cell (p := ⟨b', o' + i, none⟩) h7]; exact h8⟩

/-- The word j of the set of the numbers ys, each taken modulo n. -/
def wordOf (n : Nat) (ys : List Nat) (j : Nat) : Nat := ys.foldl (fun acc y => if y % n / 64 = j then acc ||| 2 ^ (y % n % 64) else acc) 0
theorem wordOf_snoc (n : Nat) (ys : List Nat) (y j : Nat) : wordOf n (ys ++ [y]) j = if y % n / 64 = j then wordOf n ys j ||| 2 ^ (y % n % 64) else wordOf n ys j := by
  simp [wordOf, List.foldl_append]
theorem pow_lt64 (k : Nat) (h : k < 64) : 2 ^ k < 18446744073709551616 := by
  have : 2 ^ k < 2 ^ 64 := Nat.pow_lt_pow_right (by decide) h
  simpa using this
theorem or_lt64 {x y : Nat} (hx : x < 18446744073709551616) (hy : y < 18446744073709551616) : x ||| y < 18446744073709551616 := by
  have := Nat.or_lt_two_pow (n := 64) (x := x) (y := y) (by simpa using hx) (by simpa using hy)
  simpa using this
theorem foldl_lt64 (n j : Nat) : ∀ (ys : List Nat) (acc : Nat), acc < 18446744073709551616 → ys.foldl (fun acc y => if y % n / 64 = j then acc ||| 2 ^ (y % n % 64) else acc) acc < 18446744073709551616
  | [], _, h => h
  | y :: ys, acc, h => by
    rw [List.foldl_cons]
    apply foldl_lt64 n j ys
    split
    · exact or_lt64 h (pow_lt64 _ (Nat.mod_lt _ (by decide)))
    · exact h
theorem wordOf_lt (n : Nat) (ys : List Nat) (j : Nat) : wordOf n ys j < 18446744073709551616 := foldl_lt64 n j ys 0 (by decide)
/-- Is v among the numbers ys, each taken modulo n? -/
def memOf (n : Nat) (ys : List Nat) (v : Nat) : Bool := ys.any fun y => decide (y % n = v)
theorem memOf_snoc (n : Nat) (ys : List Nat) (y v : Nat) : memOf n (ys ++ [y]) v = if v = y % n then true else memOf n ys v := by
  unfold memOf
  rw [List.any_append]
  by_cases h : v = y % n
  · rw [if_pos h]; simp [h]
  · rw [if_neg h]
    have : ¬ y % n = v := fun e => h e.symm
    simp [this]

theorem or64 (x y : Nat) (hx : x < 18446744073709551616) (hy : y < 18446744073709551616) : IntKind.u64.wrap ((BitVec.ofInt IntKind.u64.bits (x : Int) ||| BitVec.ofInt IntKind.u64.bits (y : Int)).toNat : Int) = ((x ||| y : Nat) : Int) := by
  have hb : IntKind.u64.bits = 64 := rfl
  have e1 : (BitVec.ofInt IntKind.u64.bits (x : Int) ||| BitVec.ofInt IntKind.u64.bits (y : Int)).toNat = x ||| y := by
    rw [BitVec.toNat_or]
    simp only [BitVec.toNat_ofInt, hb]
    congr 1 <;> omega
  rw [e1]
  have hlt := or_lt64 hx hy
  rw [IntKind.wrap_u64]
  omega
theorem shl64 (k : Nat) (h : k < 64) : IntKind.u64.wrap (1 * 2 ^ (min ((k : Nat) : Int).toNat IntKind.u64.bits)) = ((2 ^ k : Nat) : Int) := by
  have hb : IntKind.u64.bits = 64 := rfl
  have hp := pow_lt64 k h
  rw [Int.toNat_natCast, hb, Nat.min_eq_left (by omega), Int.one_mul]
  have e : ((2 : Int) ^ k) = ((2 ^ k : Nat) : Int) := by rw [Int.natCast_pow]; rfl
  rw [e]
  generalize 2 ^ k = q at hp
  rw [IntKind.wrap_u64]
  omega

/-! ### The sets meet where the bools do -/
theorem testBit_wordOf (n j i : Nat) (hi : i < 64) : ∀ (ys : List Nat) , (wordOf n ys j).testBit i = ys.any fun y => decide (y % n = 64 * j + i) := by
  intro ys
  have key : ∀ (ys : List Nat) (acc : Nat), (ys.foldl (fun acc y => if y % n / 64 = j then acc ||| 2 ^ (y % n % 64) else acc) acc).testBit i = (acc.testBit i || ys.any fun y => decide (y % n = 64 * j + i)) := by
    intro ys
    induction ys with
    | nil => intro acc; simp
    | cons y ys ih =>
      intro acc
      rw [List.foldl_cons, ih, List.any_cons, ← Bool.or_assoc]
      congr 1
      split
      · rename_i h
        rw [Nat.testBit_or, Nat.testBit_two_pow]
        congr 1
        by_cases h2 : y % n % 64 = i
        · have : y % n = 64 * j + i := by omega
          simp [this]; omega
        · have : ¬ y % n = 64 * j + i := by omega
          simp [h2, this]
      · rename_i h
        have : ¬ y % n = 64 * j + i := by omega
        simp [this]
  have := key ys 0
  simpa [wordOf] using this

theorem meet_iff (n : Nat) (hn : 0 < n) (xs ys : List Nat) : anyLt (fun j => wordOf n xs j &&& wordOf n ys j != 0) ((n + 63) / 64) = anyLt (fun v => memOf n xs v && memOf n ys v) n := by
  rw [Bool.eq_iff_iff]
  unfold anyLt
  rw [List.any_eq_true, List.any_eq_true]
  constructor
  · rintro ⟨j, hj, hne⟩
    have hne' : wordOf n xs j &&& wordOf n ys j ≠ 0 := by simpa using hne
    obtain ⟨i, hi⟩ := Nat.exists_testBit_of_ne_zero hne'
    rw [Nat.testBit_and, Bool.and_eq_true] at hi
    have hi64 : i < 64 := by
      rcases Nat.lt_or_ge i 64 with h | h
      · exact h
      · have := Nat.testBit_lt_two_pow (x := wordOf n xs j) (i := i) (Nat.lt_of_lt_of_le (wordOf_lt n xs j) (by
          have : (2 : Nat) ^ 64 ≤ 2 ^ i := Nat.pow_le_pow_right (by decide) h
          simpa using this))
        rw [this] at hi
        exact absurd hi.1 (by decide)
    rw [testBit_wordOf n j i hi64, testBit_wordOf n j i hi64] at hi
    refine ⟨64 * j + i, ?_, ?_⟩
    · rw [List.mem_range]
      obtain ⟨y, _, hy⟩ := List.any_eq_true.1 hi.1
      have hy' : y % n = 64 * j + i := by simpa using hy
      have := Nat.mod_lt y hn
      omega
    · unfold memOf; rw [hi.1, hi.2]; rfl
  · rintro ⟨v, hv, hm⟩
    rw [Bool.and_eq_true] at hm
    have hvn : v < n := List.mem_range.1 hv
    refine ⟨v / 64, by rw [List.mem_range]; omega, ?_⟩
    have hi64 : v % 64 < 64 := Nat.mod_lt _ (by decide)
    have e : 64 * (v / 64) + v % 64 = v := by omega
    have h1 : (wordOf n xs (v / 64)).testBit (v % 64) = true := by rw [testBit_wordOf n _ _ hi64, e]; exact hm.1
    have h2 : (wordOf n ys (v / 64)).testBit (v % 64) = true := by rw [testBit_wordOf n _ _ hi64, e]; exact hm.2
    have h3 : (wordOf n xs (v / 64) &&& wordOf n ys (v / 64)).testBit (v % 64) = true := by rw [Nat.testBit_and, h1, h2]; rfl
    have : wordOf n xs (v / 64) &&& wordOf n ys (v / 64) ≠ 0 := by
      intro h0
      rw [h0, Nat.zero_testBit] at h3
      exact absurd h3 (by decide)
    simpa using this
end Go.Proofs.YbulkgfagDoor
