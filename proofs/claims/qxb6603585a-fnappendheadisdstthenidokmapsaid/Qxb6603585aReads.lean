/-
  b1ReadsAsUint: the law's own decoder of one msgpack unsigned integer.
-/
import Derived.Test.Qxb6603585aProg
import Derived.WalkKit
import Derived.WalkSpells
import Derived.WalkLawsBesides
import Derived.Lib.EndianBits
namespace Go.Proofs.Qxb6603585a
open Go.RowKit

/-- The number that the bytes U 1 .. U k spell, the greatest first. -/
def val (U : Nat → Int) : Nat → Int
  | 0 => 0
  | k + 1 => val U k * 256 + U (k + 1)

theorem val_bd (U : Nat → Int) (hU : ∀ j, 0 ≤ U j ∧ U j ≤ 255) (k : Nat) : 0 ≤ val U k ∧ val U k < 256 ^ k := by
  induction k with
  | zero => simp [val]
  | succ k ih =>
    have := hU (k + 1)
    have e : (256 : Int) ^ (k + 1) = 256 ^ k * 256 := Int.pow_succ _ _
    simp only [val]
    rw [e]
    omega

theorem val_bd7 (U : Nat → Int) (hU : ∀ j, 0 ≤ U j ∧ U j ≤ 255) (k : Nat) (hk : k ≤ 7) : 0 ≤ val U k ∧ val U k ≤ 72057594037927935 := by
  obtain ⟨h1, h2⟩ := val_bd U hU k
  refine ⟨h1, ?_⟩
  have h3 : (256 : Int) ^ k ≤ 256 ^ 7 := by
    match k, hk with
    | 0, _ | 1, _ | 2, _ | 3, _ | 4, _ | 5, _ | 6, _ | 7, _ => decide
  have h4 : (256 : Int) ^ 7 = 72057594037927936 := by decide
  omega

theorem or_join (a b : Int) (h1 : 0 ≤ a) (h2 : a ≤ 72057594037927935) (h3 : 0 ≤ b) (h4 : b ≤ 255) : bits .or .u64 (a * 256) b = a * 256 + b :=
  bits_join .u64 64 (by decide) wraps_u64 8 (a * 256) b (by omega) (by omega) (by omega) h3 (by omega) (by omega)

/-- one byte. -/
theorem reads_1 (g off c : Nat) (id : Int) (h0 : 0 ≤ id) (h1 : id < 128) (w : World) (hc : w.cell? ⟨g, off, none⟩ = some (.int .u8 id)) :
    Calls Try.prog 20 #[.slice (some ⟨g, off, none⟩) 1 c, .int .u64 id] w fun e w' => e = .returned (.bool true) ∧ w' = w := by
  go_enter Try.func20, Try.ntmps20
  go_wp2
  go_ret
  exact ⟨rfl, rfl⟩

set_option maxHeartbeats 400000 in
/-- 2 bytes. -/
theorem reads_2 (g off c : Nat) (U : Nat → Int) (id : Int) (hU : ∀ j, 0 ≤ U j ∧ U j ≤ 255) (hid : val U 1 = id) (h0 : U 0 = 204) (w : World) (hc : ∀ j, j < 2 → w.cell? ⟨g, off + j, none⟩ = some (.int .u8 (U j))) :
    Calls Try.prog 20 #[.slice (some ⟨g, off, none⟩) 2 c, .int .u64 id] w fun e w' => e = .returned (.bool true) ∧ w' = w := by
  have c0 := hc 0 (by omega)
  rw [h0, Nat.add_zero] at c0
  go_enter Try.func20, Try.ntmps20
  go_wp2
  go_loop [7, 8] (fun v i => ∃ k : Nat, k + 1 ≤ 2 ∧ i = .int .i64 (k + 1 : Nat) ∧ v = .int .u64 (val U k)) (fun _ i => 2 - (intOf i).toNat)
  case atStart => exact ⟨0, by omega, rfl, rfl⟩
  case round =>
    obtain ⟨k, hk, rfl, rfl⟩ := hrel
    by_cases hlt : k + 1 < 2
    · have ck := hc (k + 1) hlt
      obtain ⟨b1, b2⟩ := val_bd7 U hU k (by omega)
      obtain ⟨u1, u2⟩ := hU (k + 1)
      have hj := or_join (val U k) (U (k + 1)) b1 b2 u1 u2
      clear hc hU
      go_wp2
      exact ⟨⟨k + 1, by omega, by go_num, rfl⟩, by simp [intOf]; omega⟩
    · obtain rfl : k = 1 := by omega
      clear hc hU
      go_wp2
      go_ret
      exact ⟨rfl, rfl⟩

set_option maxHeartbeats 400000 in
/-- 3 bytes. -/
theorem reads_3 (g off c : Nat) (U : Nat → Int) (id : Int) (hU : ∀ j, 0 ≤ U j ∧ U j ≤ 255) (hid : val U 2 = id) (h0 : U 0 = 205) (w : World) (hc : ∀ j, j < 3 → w.cell? ⟨g, off + j, none⟩ = some (.int .u8 (U j))) :
    Calls Try.prog 20 #[.slice (some ⟨g, off, none⟩) 3 c, .int .u64 id] w fun e w' => e = .returned (.bool true) ∧ w' = w := by
  have c0 := hc 0 (by omega)
  rw [h0, Nat.add_zero] at c0
  go_enter Try.func20, Try.ntmps20
  go_wp2
  go_loop [7, 8] (fun v i => ∃ k : Nat, k + 1 ≤ 3 ∧ i = .int .i64 (k + 1 : Nat) ∧ v = .int .u64 (val U k)) (fun _ i => 3 - (intOf i).toNat)
  case atStart => exact ⟨0, by omega, rfl, rfl⟩
  case round =>
    obtain ⟨k, hk, rfl, rfl⟩ := hrel
    by_cases hlt : k + 1 < 3
    · have ck := hc (k + 1) hlt
      obtain ⟨b1, b2⟩ := val_bd7 U hU k (by omega)
      obtain ⟨u1, u2⟩ := hU (k + 1)
      have hj := or_join (val U k) (U (k + 1)) b1 b2 u1 u2
      clear hc hU
      go_wp2
      exact ⟨⟨k + 1, by omega, by go_num, rfl⟩, by simp [intOf]; omega⟩
    · obtain rfl : k = 2 := by omega
      clear hc hU
      go_wp2
      go_ret
      exact ⟨rfl, rfl⟩

set_option maxHeartbeats 400000 in
/-- 5 bytes. -/
theorem reads_5 (g off c : Nat) (U : Nat → Int) (id : Int) (hU : ∀ j, 0 ≤ U j ∧ U j ≤ 255) (hid : val U 4 = id) (h0 : U 0 = 206) (w : World) (hc : ∀ j, j < 5 → w.cell? ⟨g, off + j, none⟩ = some (.int .u8 (U j))) :
    Calls Try.prog 20 #[.slice (some ⟨g, off, none⟩) 5 c, .int .u64 id] w fun e w' => e = .returned (.bool true) ∧ w' = w := by
  have c0 := hc 0 (by omega)
  rw [h0, Nat.add_zero] at c0
  go_enter Try.func20, Try.ntmps20
  go_wp2
  go_loop [7, 8] (fun v i => ∃ k : Nat, k + 1 ≤ 5 ∧ i = .int .i64 (k + 1 : Nat) ∧ v = .int .u64 (val U k)) (fun _ i => 5 - (intOf i).toNat)
  case atStart => exact ⟨0, by omega, rfl, rfl⟩
  case round =>
    obtain ⟨k, hk, rfl, rfl⟩ := hrel
    by_cases hlt : k + 1 < 5
    · have ck := hc (k + 1) hlt
      obtain ⟨b1, b2⟩ := val_bd7 U hU k (by omega)
      obtain ⟨u1, u2⟩ := hU (k + 1)
      have hj := or_join (val U k) (U (k + 1)) b1 b2 u1 u2
      clear hc hU
      go_wp2
      exact ⟨⟨k + 1, by omega, by go_num, rfl⟩, by simp [intOf]; omega⟩
    · obtain rfl : k = 4 := by omega
      clear hc hU
      go_wp2
      go_ret
      exact ⟨rfl, rfl⟩

set_option maxHeartbeats 400000 in
/-- 9 bytes. -/
theorem reads_9 (g off c : Nat) (U : Nat → Int) (id : Int) (hU : ∀ j, 0 ≤ U j ∧ U j ≤ 255) (hid : val U 8 = id) (h0 : U 0 = 207) (w : World) (hc : ∀ j, j < 9 → w.cell? ⟨g, off + j, none⟩ = some (.int .u8 (U j))) :
    Calls Try.prog 20 #[.slice (some ⟨g, off, none⟩) 9 c, .int .u64 id] w fun e w' => e = .returned (.bool true) ∧ w' = w := by
  have c0 := hc 0 (by omega)
  rw [h0, Nat.add_zero] at c0
  go_enter Try.func20, Try.ntmps20
  go_wp2
  go_loop [7, 8] (fun v i => ∃ k : Nat, k + 1 ≤ 9 ∧ i = .int .i64 (k + 1 : Nat) ∧ v = .int .u64 (val U k)) (fun _ i => 9 - (intOf i).toNat)
  case atStart => exact ⟨0, by omega, rfl, rfl⟩
  case round =>
    obtain ⟨k, hk, rfl, rfl⟩ := hrel
    by_cases hlt : k + 1 < 9
    · have ck := hc (k + 1) hlt
      obtain ⟨b1, b2⟩ := val_bd7 U hU k (by omega)
      obtain ⟨u1, u2⟩ := hU (k + 1)
      have hj := or_join (val U k) (U (k + 1)) b1 b2 u1 u2
      clear hc hU
      go_wp2
      exact ⟨⟨k + 1, by omega, by go_num, rfl⟩, by simp [intOf]; omega⟩
    · obtain rfl : k = 8 := by omega
      clear hc hU
      go_wp2
      go_ret
      exact ⟨rfl, rfl⟩

end Go.Proofs.Qxb6603585a
