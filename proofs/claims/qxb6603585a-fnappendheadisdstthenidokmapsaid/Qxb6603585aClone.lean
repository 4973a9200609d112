/-
  'c := make([]T, len(b)); for i := 0; i < len(b); i++ { c[i] = b[i] }': THE THREE CLONES (b1CloneBools, b1CloneStrings, b1Clone): a new block with the same cells.
-/
import Derived.Test.Qxb6603585aProg
import Derived.WalkKit
import Derived.WalkSpells
import Derived.WalkLawsBesides
import Derived.Deep.OwnRows
namespace Go.Proofs.Qxb6603585a
open Go.RowKit

/-- A row of n cells, the first k of them X's, the rest z. -/
def cpy (X : Nat → Value) (z : Value) (n k : Nat) : Array Value := ((List.range n).map fun j => if j < k then X j else z).toArray
/-- A row of n cells, X's. -/
def row (X : Nat → Value) (n : Nat) : Array Value := ((List.range n).map X).toArray

theorem cpy_get (X : Nat → Value) (z : Value) (n k j : Nat) (h : j < n) : (cpy X z n k)[j]? = some (if j < k then X j else z) := by
  simp [cpy, h]
theorem cpy_size (X : Nat → Value) (z : Value) (n k : Nat) : (cpy X z n k).size = n := by simp [cpy]
theorem row_get (X : Nat → Value) (n j : Nat) (h : j < n) : (row X n)[j]? = some (X j) := by simp [row, h]
theorem row_size (X : Nat → Value) (n : Nat) : (row X n).size = n := by simp [row]
theorem cpy_zero (X : Nat → Value) (z : Value) (n : Nat) : madeCells #[z] n = cpy X z n 0 := by
  apply Array.ext
  · simp [madeCells, cpy]
  · intro i h1 h2
    simp [madeCells, cpy, Nat.mod_one]
theorem cpy_set (X : Nat → Value) (z : Value) (n k : Nat) : (cpy X z n k).setIfInBounds k (X k) = cpy X z n (k + 1) := by
  apply Array.ext
  · simp [cpy]
  · intro i h1 h2
    have hi : i < n := by simpa [cpy] using h2
    rw [Array.getElem_setIfInBounds (by simpa [cpy] using hi)]
    by_cases e : k = i
    · subst e; simp [cpy]
    · simp only [e, if_false, cpy, List.getElem_toArray, List.getElem_map, List.getElem_range]
      by_cases hk : i < k
      · simp [hk, show i < k + 1 by omega]
      · simp [hk, show ¬ i < k + 1 by omega]
theorem cpy_full (X : Nat → Value) (z : Value) (n : Nat) : cpy X z n n = row X n := by
  apply Array.ext
  · simp [cpy, row]
  · intro i h1 h2
    have hi : i < n := by simpa [row] using h2
    simp [cpy, row, hi]

theorem info5 : (Try.prog.info? 5).map (fun i => (i.zero, i.size, i.bytes)) = some (some (.int .u8 0), 1, 1) := by kernel_rfl
theorem info4 : (Try.prog.info? 4).map (fun i => (i.zero, i.size, i.bytes)) = some (some (.bool false), 1, 1) := by kernel_rfl
theorem info9 : (Try.prog.info? 9).map (fun i => (i.zero, i.size, i.bytes)) = some (some (.string ByteArray.empty), 1, 16) := by kernel_rfl

set_option maxHeartbeats 400000 in
/-- bytes: not nil. -/
theorem clone_bytes (b off n c : Nat) (X : Nat → Int) (w : World) (hn : n ≤ 1048576) (hb : b < w.heap.size) (hc : ∀ j, j < n → w.cell? ⟨b, off + j, none⟩ = some (.int .u8 (X j))) :
    Calls Try.prog 17 #[.slice (some ⟨b, off, none⟩) n c] w fun e w' => e = .returned (.slice (some ⟨w.heap.size, 0, none⟩) n n) ∧ w' = w.alloc (.cells (row (fun j => .int .u8 (X j)) n) 5) := by
  have hnil := fun (wx : World) => Lib.run_eql_slice_nil (P := Try.prog) wx
  have hmk := fun (wx : World) => run_make_row' (P := Try.prog) 39 5 (.int .u8 0) 1 Try.underlying39 info5 rfl .i64 .i64 n (by omega) (by omega) wx
  simp only [cpy_zero (fun j => .int .u8 (X j))] at hmk
  go_enter Try.func17, Try.ntmps17
  go_wp2
  go_loopw [4] (fun i wr => ∃ k : Nat, k ≤ n ∧ i = .int .i64 k ∧ wr = w.alloc (.cells (cpy (fun j => .int .u8 (X j)) (.int .u8 0) n k) 5)) (fun i _ => n - (intOf i).toNat)
  case atStart => exact ⟨0, Nat.zero_le _, rfl, rfl⟩
  case round =>
    obtain ⟨k, hk, rfl, rfl⟩ := hrel
    by_cases hlt : k < n
    · have hg : (cpy (fun j => .int .u8 (X j)) (.int .u8 0) n k)[k]? = some (.int .u8 0) := by rw [cpy_get _ _ _ _ _ hlt, if_neg (Nat.lt_irrefl _)]
      have hs := cpy_set (fun j => .int .u8 (X j)) (.int .u8 0) n k
      have hck := hc k hlt
      go_wp2
      go_roundw
      case rel => exact ⟨k + 1, by omega, by go_num, rfl⟩
      case measure => simp [intOf]; omega
    · obtain rfl : k = n := by omega
      have hf := cpy_full (fun j => .int .u8 (X j)) (.int .u8 0) k
      go_wp2
      go_ret
      exact ⟨rfl, rfl⟩

/-- bytes: no element, not nil. -/
theorem clone_bytes_0 (a : Addr) (c : Nat) (X : Nat → Int) (w : World) :
    Calls Try.prog 17 #[.slice (some a) 0 c] w fun e w' => e = .returned (.slice (some ⟨w.heap.size, 0, none⟩) 0 0) ∧ w' = w.alloc (.cells (row (fun j => .int .u8 (X j)) 0) 5) := by
  have hnil := fun (wx : World) => Lib.run_eql_slice_nil (P := Try.prog) wx
  have hmk := fun (wx : World) => run_make_row' (P := Try.prog) 39 5 (.int .u8 0) 1 Try.underlying39 info5 rfl .i64 .i64 0 (by omega) (by omega) wx
  simp only [cpy_zero (fun j => .int .u8 (X j)), cpy_full, Int.natCast_zero] at hmk
  go_enter Try.func17, Try.ntmps17
  go_wp2
  go_loopw [4] (fun i wr => i = .int .i64 0 ∧ wr = w.alloc (.cells (row (fun j => .int .u8 (X j)) 0) 5)) (fun _ _ => 0)
  case atStart => exact ⟨rfl, rfl⟩
  case round =>
    obtain ⟨rfl, rfl⟩ := hrel
    go_wp2
    go_ret
    exact ⟨rfl, rfl⟩

/-- bytes: nil. -/
theorem clone_bytes_nil (w : World) :
    Calls Try.prog 17 #[.slice none 0 0] w fun e w' => e = .returned (.slice none 0 0) ∧ w' = w := by
  have hnil := fun (wx : World) => Lib.run_eql_slice_nil (P := Try.prog) wx
  go_enter Try.func17, Try.ntmps17
  go_wp2
  go_ret
  exact ⟨rfl, rfl⟩

set_option maxHeartbeats 400000 in
/-- bools: not nil. -/
theorem clone_bools (b off n c : Nat) (X : Nat → Bool) (w : World) (hn : n ≤ 1048576) (hb : b < w.heap.size) (hc : ∀ j, j < n → w.cell? ⟨b, off + j, none⟩ = some (.bool (X j))) :
    Calls Try.prog 8 #[.slice (some ⟨b, off, none⟩) n c] w fun e w' => e = .returned (.slice (some ⟨w.heap.size, 0, none⟩) n n) ∧ w' = w.alloc (.cells (row (fun j => .bool (X j)) n) 4) := by
  have hnil := fun (wx : World) => Lib.run_eql_slice_nil (P := Try.prog) wx
  have hmk := fun (wx : World) => run_make_row' (P := Try.prog) 23 4 (.bool false) 1 Try.underlying23 info4 rfl .i64 .i64 n (by omega) (by omega) wx
  simp only [cpy_zero (fun j => .bool (X j))] at hmk
  go_enter Try.func8, Try.ntmps8
  go_wp2
  go_loopw [4] (fun i wr => ∃ k : Nat, k ≤ n ∧ i = .int .i64 k ∧ wr = w.alloc (.cells (cpy (fun j => .bool (X j)) (.bool false) n k) 4)) (fun i _ => n - (intOf i).toNat)
  case atStart => exact ⟨0, Nat.zero_le _, rfl, rfl⟩
  case round =>
    obtain ⟨k, hk, rfl, rfl⟩ := hrel
    by_cases hlt : k < n
    · have hg : (cpy (fun j => .bool (X j)) (.bool false) n k)[k]? = some (.bool false) := by rw [cpy_get _ _ _ _ _ hlt, if_neg (Nat.lt_irrefl _)]
      have hs := cpy_set (fun j => .bool (X j)) (.bool false) n k
      have hck := hc k hlt
      go_wp2
      go_roundw
      case rel => exact ⟨k + 1, by omega, by go_num, rfl⟩
      case measure => simp [intOf]; omega
    · obtain rfl : k = n := by omega
      have hf := cpy_full (fun j => .bool (X j)) (.bool false) k
      go_wp2
      go_ret
      exact ⟨rfl, rfl⟩

/-- bools: no element, not nil. -/
theorem clone_bools_0 (a : Addr) (c : Nat) (X : Nat → Bool) (w : World) :
    Calls Try.prog 8 #[.slice (some a) 0 c] w fun e w' => e = .returned (.slice (some ⟨w.heap.size, 0, none⟩) 0 0) ∧ w' = w.alloc (.cells (row (fun j => .bool (X j)) 0) 4) := by
  have hnil := fun (wx : World) => Lib.run_eql_slice_nil (P := Try.prog) wx
  have hmk := fun (wx : World) => run_make_row' (P := Try.prog) 23 4 (.bool false) 1 Try.underlying23 info4 rfl .i64 .i64 0 (by omega) (by omega) wx
  simp only [cpy_zero (fun j => .bool (X j)), cpy_full, Int.natCast_zero] at hmk
  go_enter Try.func8, Try.ntmps8
  go_wp2
  go_loopw [4] (fun i wr => i = .int .i64 0 ∧ wr = w.alloc (.cells (row (fun j => .bool (X j)) 0) 4)) (fun _ _ => 0)
  case atStart => exact ⟨rfl, rfl⟩
  case round =>
    obtain ⟨rfl, rfl⟩ := hrel
    go_wp2
    go_ret
    exact ⟨rfl, rfl⟩

/-- bools: nil. -/
theorem clone_bools_nil (w : World) :
    Calls Try.prog 8 #[.slice none 0 0] w fun e w' => e = .returned (.slice none 0 0) ∧ w' = w := by
  have hnil := fun (wx : World) => Lib.run_eql_slice_nil (P := Try.prog) wx
  go_enter Try.func8, Try.ntmps8
  go_wp2
  go_ret
  exact ⟨rfl, rfl⟩

set_option maxHeartbeats 400000 in
/-- strings: not nil. -/
theorem clone_strings (b off n c : Nat) (X : Nat → ByteArray) (w : World) (hn : n ≤ 1048576) (hb : b < w.heap.size) (hc : ∀ j, j < n → w.cell? ⟨b, off + j, none⟩ = some (.string (X j))) :
    Calls Try.prog 9 #[.slice (some ⟨b, off, none⟩) n c] w fun e w' => e = .returned (.slice (some ⟨w.heap.size, 0, none⟩) n n) ∧ w' = w.alloc (.cells (row (fun j => .string (X j)) n) 9) := by
  have hnil := fun (wx : World) => Lib.run_eql_slice_nil (P := Try.prog) wx
  have hmk := fun (wx : World) => run_make_row' (P := Try.prog) 24 9 (.string ByteArray.empty) 16 Try.underlying24 info9 rfl .i64 .i64 n (by omega) (by omega) wx
  simp only [cpy_zero (fun j => .string (X j))] at hmk
  go_enter Try.func9, Try.ntmps9
  go_wp2
  go_loopw [4] (fun i wr => ∃ k : Nat, k ≤ n ∧ i = .int .i64 k ∧ wr = w.alloc (.cells (cpy (fun j => .string (X j)) (.string ByteArray.empty) n k) 9)) (fun i _ => n - (intOf i).toNat)
  case atStart => exact ⟨0, Nat.zero_le _, rfl, rfl⟩
  case round =>
    obtain ⟨k, hk, rfl, rfl⟩ := hrel
    by_cases hlt : k < n
    · have hg : (cpy (fun j => .string (X j)) (.string ByteArray.empty) n k)[k]? = some (.string ByteArray.empty) := by rw [cpy_get _ _ _ _ _ hlt, if_neg (Nat.lt_irrefl _)]
      have hs := cpy_set (fun j => .string (X j)) (.string ByteArray.empty) n k
      have hck := hc k hlt
      go_wp2
      go_roundw
      case rel => exact ⟨k + 1, by omega, by go_num, rfl⟩
      case measure => simp [intOf]; omega
    · obtain rfl : k = n := by omega
      have hf := cpy_full (fun j => .string (X j)) (.string ByteArray.empty) k
      go_wp2
      go_ret
      exact ⟨rfl, rfl⟩

/-- strings: no element, not nil. -/
theorem clone_strings_0 (a : Addr) (c : Nat) (X : Nat → ByteArray) (w : World) :
    Calls Try.prog 9 #[.slice (some a) 0 c] w fun e w' => e = .returned (.slice (some ⟨w.heap.size, 0, none⟩) 0 0) ∧ w' = w.alloc (.cells (row (fun j => .string (X j)) 0) 9) := by
  have hnil := fun (wx : World) => Lib.run_eql_slice_nil (P := Try.prog) wx
  have hmk := fun (wx : World) => run_make_row' (P := Try.prog) 24 9 (.string ByteArray.empty) 16 Try.underlying24 info9 rfl .i64 .i64 0 (by omega) (by omega) wx
  simp only [cpy_zero (fun j => .string (X j)), cpy_full, Int.natCast_zero] at hmk
  go_enter Try.func9, Try.ntmps9
  go_wp2
  go_loopw [4] (fun i wr => i = .int .i64 0 ∧ wr = w.alloc (.cells (row (fun j => .string (X j)) 0) 9)) (fun _ _ => 0)
  case atStart => exact ⟨rfl, rfl⟩
  case round =>
    obtain ⟨rfl, rfl⟩ := hrel
    go_wp2
    go_ret
    exact ⟨rfl, rfl⟩

/-- strings: nil. -/
theorem clone_strings_nil (w : World) :
    Calls Try.prog 9 #[.slice none 0 0] w fun e w' => e = .returned (.slice none 0 0) ∧ w' = w := by
  have hnil := fun (wx : World) => Lib.run_eql_slice_nil (P := Try.prog) wx
  go_enter Try.func9, Try.ntmps9
  go_wp2
  go_ret
  exact ⟨rfl, rfl⟩

end Go.Proofs.Qxb6603585a
