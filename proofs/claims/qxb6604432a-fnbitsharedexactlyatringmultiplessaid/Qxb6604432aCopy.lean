/-
  'c := make([]T, len(b)); for i := 0; i < len(b); i++ { c[i] = b[i] }': zzCopyWords: a new block with the same cells.
-/
import Derived.Test.Qxb6604432aProg
import Derived.WalkKit
import Derived.WalkSpells
import Derived.WalkLawsBesides
import Derived.Deep.OwnRows
import Derived.ProofKit
namespace Go.Proofs.Qxb6604432a
open Go.ChangeShapes Go.WideShapes Go.ChangeAt Go.RowKit

/-- A row of n cells, the first k of them X's, the rest z. -/
def cpy (X : Nat → Value) (z : Value) (n k : Nat) : Array Value := ((List.range n).map fun j => if j < k then X j else z).toArray
/-- A row of n cells, X's. -/
def row (X : Nat → Value) (n : Nat) : Array Value := ((List.range n).map X).toArray

theorem cpy_get (X : Nat → Value) (z : Value) (n k j : Nat) (h : j < n) : (cpy X z n k)[j]? = some (if j < k then X j else z) := by
  simp [cpy, h]
theorem cpy_size (X : Nat → Value) (z : Value) (n k : Nat) : (cpy X z n k).size = n := by simp [cpy]
theorem row_get (X : Nat → Value) (n j : Nat) (h : j < n) : (row X n)[j]? = some (X j) := by simp [row, h]
theorem row_size (X : Nat → Value) (n : Nat) : (row X n).size = n := by simp [row]
theorem cpy_zero (X : Nat → Value) (z : Value) (n : Nat) : madeCells #[z] n = cpy X z n 0 := by
  apply Array.ext
  · simp [madeCells, cpy]
  · intro i h1 h2
    simp [madeCells, cpy, Nat.mod_one]
theorem cpy_set (X : Nat → Value) (z : Value) (n k : Nat) : (cpy X z n k).setIfInBounds k (X k) = cpy X z n (k + 1) := by
  apply Array.ext
  · simp [cpy]
  · intro i h1 h2
    have hi : i < n := by simpa [cpy] using h2
    rw [Array.getElem_setIfInBounds (by simpa [cpy] using hi)]
    by_cases e : k = i
    · subst e; simp [cpy]
    · simp only [e, if_false, cpy, List.getElem_toArray, List.getElem_map, List.getElem_range]
      by_cases hk : i < k
      · simp [hk, show i < k + 1 by omega]
      · simp [hk, show ¬ i < k + 1 by omega]
theorem cpy_full (X : Nat → Value) (z : Value) (n : Nat) : cpy X z n n = row X n := by
  apply Array.ext
  · simp [cpy, row]
  · intro i h1 h2
    have hi : i < n := by simpa [row] using h2
    simp [cpy, row, hi]

theorem info27 : (Try.prog.info? 27).map (fun i => (i.zero, i.size, i.bytes)) = some (some (.int .u64 0), 1, 8) := by kernel_rfl

set_option maxHeartbeats 400000 in
/-- words: not nil. -/
theorem clone_words (b off n c : Nat) (X : Nat → Int) (w : World) (hn : n ≤ 1048576) (hb : b < w.heap.size) (hc : ∀ j, j < n → w.cell? ⟨b, off + j, none⟩ = some (.int .u64 (X j))) :
    Calls Try.prog 7 #[.slice (some ⟨b, off, none⟩) n c] w fun e w' => e = .returned (.slice (some ⟨w.heap.size, 0, none⟩) n n) ∧ w' = w.alloc (.cells (row (fun j => .int .u64 (X j)) n) 27) := by
  have hnil := fun (wx : World) => Lib.run_eql_slice_nil (P := Try.prog) wx
  have hmk := fun (wx : World) => run_make_row' (P := Try.prog) 22 27 (.int .u64 0) 8 Try.underlying22 info27 rfl .i64 .i64 n (by omega) (by omega) wx
  simp only [cpy_zero (fun j => .int .u64 (X j))] at hmk
  go_enter Try.func7, Try.ntmps7
  go_wp2
  go_loopw [4] (fun i wr => ∃ k : Nat, k ≤ n ∧ i = .int .i64 k ∧ wr = w.alloc (.cells (cpy (fun j => .int .u64 (X j)) (.int .u64 0) n k) 27)) (fun i _ => n - (intOf i).toNat)
  case atStart => exact ⟨0, Nat.zero_le _, rfl, rfl⟩
  case round =>
    obtain ⟨k, hk, rfl, rfl⟩ := hrel
    by_cases hlt : k < n
    · have hg : (cpy (fun j => .int .u64 (X j)) (.int .u64 0) n k)[k]? = some (.int .u64 0) := by rw [cpy_get _ _ _ _ _ hlt, if_neg (Nat.lt_irrefl _)]
      have hs := cpy_set (fun j => .int .u64 (X j)) (.int .u64 0) n k
      have hck := hc k hlt
      go_wp2
      go_roundw
      case rel => exact ⟨k + 1, by omega, by go_num, rfl⟩
      case measure => simp [intOf]; omega
    · obtain rfl : k = n := by omega
      have hf := cpy_full (fun j => .int .u64 (X j)) (.int .u64 0) k
      go_wp2
      go_ret
      exact ⟨rfl, rfl⟩

/-- words: no element, not nil. -/
theorem clone_words_0 (a : Addr) (c : Nat) (X : Nat → Int) (w : World) :
    Calls Try.prog 7 #[.slice (some a) 0 c] w fun e w' => e = .returned (.slice (some ⟨w.heap.size, 0, none⟩) 0 0) ∧ w' = w.alloc (.cells (row (fun j => .int .u64 (X j)) 0) 27) := by
  have hnil := fun (wx : World) => Lib.run_eql_slice_nil (P := Try.prog) wx
  have hmk := fun (wx : World) => run_make_row' (P := Try.prog) 22 27 (.int .u64 0) 8 Try.underlying22 info27 rfl .i64 .i64 0 (by omega) (by omega) wx
  simp only [cpy_zero (fun j => .int .u64 (X j)), cpy_full, Int.natCast_zero] at hmk
  go_enter Try.func7, Try.ntmps7
  go_wp2
  go_loopw [4] (fun i wr => i = .int .i64 0 ∧ wr = w.alloc (.cells (row (fun j => .int .u64 (X j)) 0) 27)) (fun _ _ => 0)
  case atStart => exact ⟨rfl, rfl⟩
  case round =>
    obtain ⟨rfl, rfl⟩ := hrel
    go_wp2
    go_ret
    exact ⟨rfl, rfl⟩

/-- words: nil. -/
theorem clone_words_nil (w : World) :
    Calls Try.prog 7 #[.slice none 0 0] w fun e w' => e = .returned (.slice none 0 0) ∧ w' = w := by
  have hnil := fun (wx : World) => Lib.run_eql_slice_nil (P := Try.prog) wx
  go_enter Try.func7, Try.ntmps7
  go_wp2
  go_ret
  exact ⟨rfl, rfl⟩

/-- The slice that begins at 'ao' has n elements, the cells X: where it has one it begins at a plain address of a block that lies. -/
def Row (w : World) (ao : Option Addr) (n : Nat) (X : Nat → Value) : Prop :=
  0 < n → ∃ b off, ao = some ⟨b, off, none⟩ ∧ b < w.heap.size ∧ ∀ j, j < n → w.cell? ⟨b, off + j, none⟩ = some (X j)

theorem Row.below {w w' : World} {ao : Option Addr} {n : Nat} {X : Nat → Value} (h : Row w ao n X) (hb : Below w.heap.size w w') : Row w' ao n X := by
  intro hn
  obtain ⟨b, off, e, hlt, hc⟩ := h hn
  exact ⟨b, off, e, Nat.lt_of_lt_of_le hlt hb.size, fun j hj => (hb.cell (p := ⟨b, off + j, none⟩) hlt).trans (hc j hj)⟩

theorem Row.made (w : World) (X : Nat → Value) (n : Nat) (e : TypeId) : Row (w.alloc (.cells (row X n) e)) (some ⟨w.heap.size, 0, none⟩) n X := by
  intro _
  refine ⟨w.heap.size, 0, rfl, by simp, fun j hj => ?_⟩
  rw [World.cell?_alloc_at _ _ _ _ rfl, Nat.zero_add]
  exact row_get X n j hj

theorem below_alloc (w : World) (o : Obj) : Below w.heap.size w (w.alloc o) := (Below.refl _ _).alloc (Nat.le_refl _) _

theorem copyWords (ao : Option Addr) (n c : Nat) (X : Nat → Int) (w : World) (hn : n ≤ 1048576) (hnil : ao = none → n = 0 ∧ c = 0) (h : Row w ao n (fun j => .int .u64 (X j))) :
    Calls Try.prog 7 #[.slice ao n c] w fun e w' => ∃ ao', e = .returned (.slice ao' n n) ∧ (ao' = none → n = 0 ∧ n = 0) ∧ Row w' ao' n (fun j => .int .u64 (X j)) ∧ Below w.heap.size w w' := by
  cases ao with
  | none =>
    obtain ⟨rfl, rfl⟩ := hnil rfl
    refine (clone_words_nil w).mono ?_
    rintro e w' ⟨rfl, rfl⟩
    exact ⟨none, rfl, fun _ => ⟨rfl, rfl⟩, h, Below.refl _ _⟩
  | some a =>
    by_cases h0 : 0 < n
    · obtain ⟨b, off, ea, hb, hc⟩ := h h0
      obtain rfl : a = ⟨b, off, none⟩ := Option.some.inj ea
      refine (clone_words b off n c X w hn hb hc).mono ?_
      rintro e w' ⟨rfl, rfl⟩
      exact ⟨_, rfl, (fun h => by cases h), Row.made _ _ _ _, below_alloc _ _⟩
    · obtain rfl : n = 0 := by omega
      refine (clone_words_0 a c X w).mono ?_
      rintro e w' ⟨rfl, rfl⟩
      exact ⟨_, rfl, (fun h => by cases h), Row.made _ _ _ _, below_alloc _ _⟩

theorem Row.of_cells {W : World} {a : Addr} {n : Nat} {X : Nat → Value} (h : ∀ i, i < n → W.cell? (a.add i) = some (X i)) : Row W (some a) n X := by
  intro hn
  obtain ⟨b, off, spot⟩ := a
  have hspot : spot = none := by simpa [Addr.add] using World.cell?_spot (h 0 hn)
  subst hspot
  have cj : ∀ j, j < n → W.cell? ⟨b, off + j, none⟩ = some (X j) := fun j hj => by rw [← add_plain]; exact h j hj
  exact ⟨b, off, rfl, World.block_lt_of_cell? W _ (cj 0 hn), cj⟩
end Go.Proofs.Qxb6604432a
