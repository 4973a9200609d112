/-
  THE LAW 'FnBitSharedExactlyAtRingMultiples': its walk.
-/
import Derived.Test.Qxb6604432aBit
import Derived.Test.Qxb6604432aCopy
namespace Go.Proofs.Qxb6604432a
open Go.RowKit
set_option linter.unusedVariables false

/-- What the walk is told of one sequence number: its place i, word d, bit s and mask m. -/
structure At (n : Nat) (q i d s m : Int) : Prop where
  eAnd : bits BinOp.and IntKind.u64 q (n * 64 - 1) = i
  i0 : 0 ≤ i
  i1 : i ≤ 65535
  eD : i / 64 = d
  d0 : 0 ≤ d
  d1 : d ≤ 1024
  eS : i % 64 = s
  s0 : 0 ≤ s
  s1 : s ≤ 63
  eM : IntKind.u64.wrap (2 ^ s.toNat) = m

theorem zzbit_at (ao : Option Addr) (n c : Nat) (hn : n ≤ 65536) (h1 : 1 ≤ n) (q : Int) (hq0 : 0 ≤ q) (hq1 : q ≤ 65535) (i d s m : Int) (h : At n q i d s m) (w : World) :
    Calls Try.prog 8 #[.slice ao n c, .int .u16 q] w fun e w' => e = .returned (.tuple #[.int .i64 d, .int .u64 m]) ∧ w' = w :=
  zzbit ao n c hn h1 q hq0 hq1 i d s m h.eAnd h.i0 h.i1 h.eD h.d0 h.d1 h.eS h.s0 h.s1 h.eM w

set_option maxHeartbeats 1000000 in
theorem shared_walk (a0 : Option Addr) (n c : Nat) (X : Nat → Int) (q x r : Int) (hq0 : 0 ≤ q) (hq1 : q ≤ 65535) (hx0 : 0 ≤ x) (hx1 : x ≤ 65535) (hr : IntKind.u16.wrap (q + x) = r) (hr0 : 0 ≤ r) (hr1 : r ≤ 65535)
    (i d s m i' d' s' m' : Int)
    (F : (∃ k, n = 2 ^ k) → n ≤ 65536 → At n q i d s m ∧ At n r i' d' s' m' ∧ (m != 0) = true ∧ (m' != 0) = true ∧ ((d == d') && (m == m')) = (x % (n * 64) == 0))
    (w : World) (hl : n ≤ maxLen) (hnil : a0 = none → n = 0 ∧ c = 0) (hrow : Row w a0 n (fun j => .int .u64 (X j))) :
    Calls Try.prog 4 #[.slice a0 n c, .int .u16 q, .int .u16 x] w fun e w' => e = .returned (.bool true) ∧ Below w.heap.size w w' := by
  have HF : Hid ((∃ k, n = 2 ^ k) → n ≤ 65536 → At n q i d s m ∧ At n r i' d' s' m' ∧ (m != 0) = true ∧ (m' != 0) = true ∧ ((d == d') && (m == m')) = (x % (n * 64) == 0)) := F
  clear F
  go_enter Try.func4, Try.ntmps4
  go_wp2_with fail
  refine (bytes9 a0 n c q x _ hl).mono ?_
  rintro e w' ⟨⟨b, rfl⟩, rfl⟩
  cases b
  · go_wp2_with fail
    go_ret
    exact ⟨rfl, Below.refl _ _⟩
  unfold maxLen at hl
  by_cases s1 : (65536 : Int) < n
  · go_wp2_with fail
    go_ret
    exact ⟨rfl, Below.refl _ _⟩
  go_wp2_with fail
  refine (pow2 n (by omega) _).mono ?_
  rintro e w' ⟨⟨b, rfl, hpow⟩, rfl⟩
  cases b
  · clear hpow
    go_wp2_with fail
    go_ret
    exact ⟨rfl, Below.refl _ _⟩
  have hp := hpow rfl
  clear hpow
  have h1 : 1 ≤ n := by obtain ⟨k, rfl⟩ := hp; exact Nat.one_le_two_pow
  obtain ⟨fa, fb, hm1, hm2, hsame⟩ := HF.out hp (by omega)
  have HS : Hid (((d == d') && (m == m')) = (x % (n * 64) == 0)) := hsame
  clear hsame hp HF
  go_wp2_with fail
  refine (copyWords a0 n c X _ (by omega) hnil hrow).mono ?_
  rintro e w1 ⟨a1, rfl, nil1, row1, bel1⟩
  have bel : Hid (Below w'.heap.size w' w1) := bel1
  clear row1 bel1 hrow hnil nil1
  go_wp2_with fail
  refine (zzbit_at _ n _ (by omega) h1 q hq0 hq1 i d s m fa _).mono ?_
  rintro e w2 ⟨rfl, rfl⟩
  go_wp2_with fail
  refine (zzbit_at _ n _ (by omega) h1 r hr0 hr1 i' d' s' m' fb _).mono ?_
  rintro e w3 ⟨rfl, rfl⟩
  clear fa fb hr
  cases hw : (x % (n * 64) == 0)
  · cases hd : (d == d')
    · go_wp2_with fail
      go_ret
      exact ⟨rfl, bel.out⟩
    · have hmm : (m == m') = false := by have := HS.out; rw [hd, hw] at this; simpa using this
      go_wp2_with fail
      go_ret
      exact ⟨rfl, bel.out⟩
  · have h2 := HS.out
    rw [hw] at h2
    have hd : (d == d') = true := by revert h2; cases (d == d') <;> simp
    have hmm : (m == m') = true := by revert h2; rw [hd]; cases (m == m') <;> simp
    clear h2
    go_wp2_with fail
    go_ret
    exact ⟨rfl, bel.out⟩
end Go.Proofs.Qxb6604432a
