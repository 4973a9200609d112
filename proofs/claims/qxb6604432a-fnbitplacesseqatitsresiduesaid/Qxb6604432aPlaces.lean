/-
  THE LAW 'FnBitPlacesSeqAtItsResidue': its walk.
-/
import Derived.Test.Qxb6604432aBit
import Derived.Test.Qxb6604432aCopy
namespace Go.Proofs.Qxb6604432a
open Go.RowKit
set_option linter.unusedVariables false

set_option maxHeartbeats 1000000 in
theorem places_walk (a0 : Option Addr) (n c : Nat) (X : Nat → Int) (q : Int) (hq0 : 0 ≤ q) (hq1 : q ≤ 65535) (i d s m : Int)
    (F : (∃ k, n = 2 ^ k) → n ≤ 65536 → bits BinOp.and IntKind.u64 q (n * 64 - 1) = i ∧ 0 ≤ i ∧ i ≤ 65535 ∧ i / 64 = d ∧ 0 ≤ d ∧ d ≤ 1024 ∧ i % 64 = s ∧ 0 ≤ s ∧ s ≤ 63 ∧ IntKind.u64.wrap (2 ^ s.toNat) = m ∧ d < n ∧ d * 64 + s ≤ q ∧ (q - (d * 64 + s)) % (n * 64) = 0)
    (M : ∀ k : Nat, k < 64 → (m == IntKind.u64.wrap (2 ^ k)) = decide ((k : Int) = s))
    (w : World) (hl : n ≤ maxLen) (hnil : a0 = none → n = 0 ∧ c = 0) (hrow : Row w a0 n (fun j => .int .u64 (X j))) :
    Calls Try.prog 3 #[.slice a0 n c, .int .u16 q] w fun e w' => e = .returned (.bool true) ∧ Below w.heap.size w w' := by
  go_enter Try.func3, Try.ntmps3
  go_wp2_with fail
  refine (bytes5 a0 n c q _ hl).mono ?_
  rintro e w' ⟨⟨r, rfl⟩, rfl⟩
  cases r
  · go_wp2_with fail
    go_ret
    exact ⟨rfl, Below.refl _ _⟩
  unfold maxLen at hl
  by_cases s1 : (65536 : Int) < n
  · go_wp2_with fail
    go_ret
    exact ⟨rfl, Below.refl _ _⟩
  have HF : Hid ((∃ k, n = 2 ^ k) → n ≤ 65536 → bits BinOp.and IntKind.u64 q (n * 64 - 1) = i ∧ 0 ≤ i ∧ i ≤ 65535 ∧ i / 64 = d ∧ 0 ≤ d ∧ d ≤ 1024 ∧ i % 64 = s ∧ 0 ≤ s ∧ s ≤ 63 ∧ IntKind.u64.wrap (2 ^ s.toNat) = m ∧ d < n ∧ d * 64 + s ≤ q ∧ (q - (d * 64 + s)) % (n * 64) = 0) := F
  have HM : Hid (∀ k : Nat, k < 64 → (m == IntKind.u64.wrap (2 ^ k)) = decide ((k : Int) = s)) := M
  clear F M
  go_wp2_with fail
  refine (pow2 n (by omega) _).mono ?_
  rintro e w' ⟨⟨r, rfl, hpow⟩, rfl⟩
  cases r
  · clear hpow
    go_wp2_with fail
    go_ret
    exact ⟨rfl, Below.refl _ _⟩
  have hp := hpow rfl
  clear hpow
  have h1 : 1 ≤ n := by obtain ⟨k, rfl⟩ := hp; exact Nat.one_le_two_pow
  obtain ⟨f1, f2, f3, f4, f5, f6, f7, f8, f9, f10, f11, f12, f13⟩ := HF.out hp (by omega)
  have HZ := fun (ao : Option Addr) (c : Nat) (w : World) => zzbit ao n c (by omega) h1 q hq0 hq1 i d s m f1 f2 f3 f4 f5 f6 f7 f8 f9 f10 w
  have Z : Hid (∀ (ao : Option Addr) (c : Nat) (w : World), Calls Try.prog 8 #[.slice ao n c, .int .u16 q] w fun e w' => e = .returned (.tuple #[.int .i64 d, .int .u64 m]) ∧ w' = w) := HZ
  have H13 : Hid ((q - (d * 64 + s)) % (n * 64) = 0) := f13
  clear HZ f1 f4 f7 f10 f13 hp HF
  go_wp2_with fail
  refine (copyWords a0 n c X _ (by omega) hnil hrow).mono ?_
  rintro e w1 ⟨a1, rfl, nil1, row1, bel1⟩
  have bel : Hid (Below w'.heap.size w' w1) := bel1
  clear row1 bel1 hrow hnil nil1
  go_wp2_with fail
  refine (Z.out _ _ _).mono ?_
  rintro e w2 ⟨rfl, rfl⟩
  go_wp2_with fail
  go_loop [8, 9] (fun v j => ∃ k : Nat, k ≤ 64 ∧ j = .int .i64 k ∧ ((v = .int .i64 (-1) ∧ (k : Int) ≤ s) ∨ (v = .int .i64 s ∧ s < (k : Int)))) (fun _ j => 64 - (intOf j).toNat)
  case atStart => exact ⟨0, by omega, rfl, .inl ⟨rfl, by omega⟩⟩
  case round =>
    obtain ⟨k, hk, rfl, hv⟩ := hrel
    by_cases hlt : k < 64
    · have hM := HM.out k hlt
      by_cases hks : (k : Int) = s
      · rw [decide_eq_true hks] at hM
        have Hks : Hid ((k : Int) = s) := hks
        clear hks
        rcases hv with ⟨rfl, hle⟩ | ⟨rfl, hle⟩
        · go_wp2
          exact ⟨⟨k + 1, by omega, by go_num, .inr ⟨by rw [Hks.out], by have := Hks.out; omega⟩⟩, by simp [intOf]; omega⟩
        · exact absurd Hks.out (by omega)
      · rw [decide_eq_false hks] at hM
        rcases hv with ⟨rfl, hle⟩ | ⟨rfl, hle⟩
        · go_wp2
          exact ⟨⟨k + 1, by omega, by go_num, .inl ⟨rfl, by omega⟩⟩, by simp [intOf]; omega⟩
        · go_wp2
          exact ⟨⟨k + 1, by omega, by go_num, .inr ⟨rfl, by omega⟩⟩, by simp [intOf]; omega⟩
    · rcases hv with ⟨rfl, hle⟩ | ⟨rfl, hle⟩
      · exact absurd hle (by omega)
      · have t1 : d * 64 + s < n * 64 := by omega
        have t3 : ((q - (d * 64 + s)) % (n * 64) == 0) = true := by rw [H13.out]; rfl
        go_wp2
        go_ret
        exact ⟨rfl, bel.out⟩
end Go.Proofs.Qxb6604432a
