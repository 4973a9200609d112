/-
  history.bit, ZZbit, zzPow2, the bounds on lengths.
-/
import Derived.Test.Qxb6604432aProg
import Derived.WalkKit
import Derived.WalkSpells
import Derived.WalkLawsBesides
namespace Go.Proofs.Qxb6604432a
open Go.RowKit

set_option linter.unusedVariables false in
theorem bit (ao : Option Addr) (n c : Nat) (hn : n ≤ 65536) (h1 : 1 ≤ n) (q : Int) (hq0 : 0 ≤ q) (hq1 : q ≤ 65535) (i d s m : Int) (hand : bits BinOp.and IntKind.u64 q (n * 64 - 1) = i) (hi0 : 0 ≤ i) (hi1 : i ≤ 65535)
    (hd : i / 64 = d) (hd0 : 0 ≤ d) (hd1 : d ≤ 1024) (hs : i % 64 = s) (hs0 : 0 ≤ s) (hs1 : s ≤ 63) (hm : IntKind.u64.wrap (2 ^ s.toNat) = m) (w : World) :
    Calls Try.prog 10 #[.slice ao n c, .int .u16 q] w fun e w' => e = .returned (.tuple #[.int .i64 d, .int .u64 m]) ∧ w' = w := by
  go_enter Try.func10, Try.ntmps10
  go_wp2
  go_ret2
  exact ⟨rfl, rfl⟩

set_option linter.unusedVariables false in
theorem zzbit (ao : Option Addr) (n c : Nat) (hn : n ≤ 65536) (h1 : 1 ≤ n) (q : Int) (hq0 : 0 ≤ q) (hq1 : q ≤ 65535) (i d s m : Int) (hand : bits BinOp.and IntKind.u64 q (n * 64 - 1) = i) (hi0 : 0 ≤ i) (hi1 : i ≤ 65535)
    (hd : i / 64 = d) (hd0 : 0 ≤ d) (hd1 : d ≤ 1024) (hs : i % 64 = s) (hs0 : 0 ≤ s) (hs1 : s ≤ 63) (hm : IntKind.u64.wrap (2 ^ s.toNat) = m) (w : World) :
    Calls Try.prog 8 #[.slice ao n c, .int .u16 q] w fun e w' => e = .returned (.tuple #[.int .i64 d, .int .u64 m]) ∧ w' = w := by
  have H := bit ao n c hn h1 q hq0 hq1 i d s m hand hi0 hi1 hd hd0 hd1 hs hs0 hs1 hm w
  have HH : Hid (Calls Try.prog 10 #[.slice ao n c, .int .u16 q] w fun e w' => e = .returned (.tuple #[.int .i64 d, .int .u64 m]) ∧ w' = w) := H
  clear H hand hd hs hm
  go_enter Try.func8, Try.ntmps8
  go_wp2_with fail
  refine HH.out.mono ?_
  rintro e w1 ⟨rfl, rfl⟩
  go_wp2
  go_ret2
  exact ⟨rfl, rfl⟩

/-- The call returned a bool, and where it is true n is a power of two. -/
def PowAns (n : Nat) (e : Ending) : Prop := ∃ r, e = .returned (.bool r) ∧ (r = true → ∃ k, n = 2 ^ k)

theorem pow2 (n : Nat) (hn : n ≤ 65536) (w : World) :
    Calls Try.prog 6 #[.int .i64 n] w fun e w' => PowAns n e ∧ w' = w := by
  by_cases h0 : n < 1
  · go_enter Try.func6, Try.ntmps6
    go_wp2
    go_ret
    exact ⟨⟨false, rfl, fun h => by cases h⟩, rfl⟩
  go_enter Try.func6, Try.ntmps6
  go_wp2
  go_loop [0] (fun v => ∃ m : Nat, 1 ≤ m ∧ m ≤ 65536 ∧ (∃ k, n = m * 2 ^ k) ∧ v = .int .i64 m) (fun v => (intOf v).toNat)
  case atStart => exact ⟨n, by omega, hn, ⟨0, by simp⟩, rfl⟩
  case round =>
    obtain ⟨m, hm1, hm2, hk, rfl⟩ := hrel
    have Hk : Hid (∃ k, n = m * 2 ^ k) := hk
    clear hk
    by_cases h1 : 1 < m
    · by_cases h2 : m % 2 = 0
      · have t : ((m : Int) % 2 != 0) = false := by simp; omega
        go_wp2
        go_round
        case rel =>
          obtain ⟨k, hk⟩ := Hk.out
          refine ⟨m / 2, by omega, by omega, ⟨k + 1, ?_⟩, by go_num⟩
          rw [Nat.pow_succ, Nat.mul_comm (2 ^ k) 2, ← Nat.mul_assoc, Nat.div_mul_cancel (Nat.dvd_of_mod_eq_zero h2)]
          exact hk
        case measure => simp [intOf]; omega
      · have t : ((m : Int) % 2 != 0) = true := by simp; omega
        go_wp2
        go_ret
        exact ⟨⟨false, rfl, fun h => by cases h⟩, rfl⟩
    · obtain rfl : m = 1 := by omega
      go_wp2
      go_ret
      refine ⟨⟨true, rfl, fun _ => ?_⟩, rfl⟩
      obtain ⟨k, hk⟩ := Hk.out
      exact ⟨k, by simpa using hk⟩

/-- The call returned a bool. -/
def SomeBool (e : Ending) : Prop := ∃ r, e = .returned (.bool r)

theorem bytes5 (ao : Option Addr) (n c : Nat) (q : Int) (w : World) (h : n ≤ maxLen) :
    Calls Try.prog 5 #[.slice ao n c, .int .u16 q] w fun e w' => SomeBool e ∧ w' = w := by
  unfold maxLen at h
  by_cases s1 : (1048576 : Int) < n
  · go_enter Try.func5, Try.ntmps5
    go_wp2
    go_ret
    exact ⟨⟨_, rfl⟩, rfl⟩
  · go_enter Try.func5, Try.ntmps5
    go_wp2
    go_ret
    exact ⟨⟨_, rfl⟩, rfl⟩
theorem bytes9 (ao : Option Addr) (n c : Nat) (q r : Int) (w : World) (h : n ≤ maxLen) :
    Calls Try.prog 9 #[.slice ao n c, .int .u16 q, .int .u16 r] w fun e w' => SomeBool e ∧ w' = w := by
  unfold maxLen at h
  by_cases s1 : (1048576 : Int) < n
  · go_enter Try.func9, Try.ntmps9
    go_wp2
    go_ret
    exact ⟨⟨_, rfl⟩, rfl⟩
  · go_enter Try.func9, Try.ntmps9
    go_wp2
    go_ret
    exact ⟨⟨_, rfl⟩, rfl⟩
end Go.Proofs.Qxb6604432a
