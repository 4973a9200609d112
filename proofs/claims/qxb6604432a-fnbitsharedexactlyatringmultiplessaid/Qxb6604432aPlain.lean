/-
  THE PLAIN LAWS: residues by a ring of a power of two. No Go in sight but for the model's own 'bits' and 'wrap'.
-/
import Derived.Laws.BitsAllLaws
import Derived.Lib.EndianBits
namespace Go.Proofs.Qxb6604432a

theorem and_mod (q : Nat) (hq : q ≤ 65535) (n : Nat) (hp : ∃ k, n = 2 ^ k) (hn : n ≤ 65536) : bits BinOp.and IntKind.u64 (q : Int) ((n : Int) * 64 - 1) = ((q % (n * 64) : Nat) : Int) := by
  obtain ⟨k, rfl⟩ := hp
  have h1 : 1 ≤ 2 ^ k := Nat.one_le_two_pow
  have e : (((2 ^ k : Nat) : Int) * 64 - 1) = ((2 ^ k * 64 - 1 : Nat) : Int) := by omega
  rw [e, u64_and_nat q (2 ^ k * 64 - 1) (by omega) (by omega)]
  have e2 : 2 ^ k * 64 = 2 ^ (k + 6) := by rw [Nat.pow_add]
  rw [e2, Nat.and_two_pow_sub_one_eq_mod]

theorem two_lt (s : Nat) (hs : s < 64) : 2 ^ s < 18446744073709551616 := by
  have h : 2 ^ s < 2 ^ 64 := Nat.pow_lt_pow_right (by decide) hs
  have e : (2 : Nat) ^ 64 = 18446744073709551616 := by decide
  omega
theorem wrap_two (s : Nat) (hs : s < 64) : IntKind.u64.wrap ((2 : Int) ^ s) = ((2 ^ s : Nat) : Int) := by
  have h := two_lt s hs
  have e : ((2 : Int) ^ s) = ((2 ^ s : Nat) : Int) := by simp
  rw [e]
  generalize (2 ^ s : Nat) = t at h
  exact u64_wrap_id _ (by omega) (by omega)

theorem masks (s k : Nat) (hs : s < 64) (hk : k < 64) : ((((2 ^ s : Nat) : Int)) == IntKind.u64.wrap ((2 : Int) ^ k)) = decide ((k : Int) = (s : Int)) := by
  rw [wrap_two k hk, Bool.eq_iff_iff]
  simp only [beq_iff_eq, decide_eq_true_eq]
  constructor
  · intro h
    have h' : 2 ^ s = 2 ^ k := by exact_mod_cast h
    have := (Nat.pow_right_inj (by decide : 1 < 2)).1 h'
    omega
  · intro h
    obtain rfl : k = s := by omega
    rfl

theorem place_facts (q : Nat) (hq : q ≤ 65535) (n : Nat) (hp : ∃ k, n = 2 ^ k) (hn : n ≤ 65536) :
    bits BinOp.and IntKind.u64 (q : Int) (n * 64 - 1) = ((q % (n * 64) : Nat) : Int) ∧ (0 : Int) ≤ ((q % (n * 64) : Nat) : Int) ∧ ((q % (n * 64) : Nat) : Int) ≤ 65535 ∧ ((q % (n * 64) : Nat) : Int) / 64 = ((q % (n * 64) / 64 : Nat) : Int) ∧
      (0 : Int) ≤ ((q % (n * 64) / 64 : Nat) : Int) ∧ ((q % (n * 64) / 64 : Nat) : Int) ≤ 1024 ∧ ((q % (n * 64) : Nat) : Int) % 64 = ((q % (n * 64) % 64 : Nat) : Int) ∧ (0 : Int) ≤ ((q % (n * 64) % 64 : Nat) : Int) ∧ ((q % (n * 64) % 64 : Nat) : Int) ≤ 63 ∧
      IntKind.u64.wrap (2 ^ (((q % (n * 64) % 64 : Nat) : Int)).toNat) = ((2 ^ (q % (n * 64) % 64) : Nat) : Int) ∧ ((q % (n * 64) / 64 : Nat) : Int) < n ∧ ((q % (n * 64) / 64 : Nat) : Int) * 64 + ((q % (n * 64) % 64 : Nat) : Int) ≤ q ∧
      ((q : Int) - (((q % (n * 64) / 64 : Nat) : Int) * 64 + ((q % (n * 64) % 64 : Nat) : Int))) % (n * 64) = 0 := by
  have h1 : 1 ≤ n := by obtain ⟨k, rfl⟩ := hp; exact Nat.one_le_two_pow
  have hA := and_mod q hq n hp hn
  have hle : q % (n * 64) ≤ q := Nat.mod_le _ _
  have hlt : q % (n * 64) < n * 64 := Nat.mod_lt _ (by omega)
  have hdiv : ((q : Int) - ((q % (n * 64) : Nat) : Int)) % (n * 64) = 0 := by
    have e : (((q % (n * 64) : Nat)) : Int) = (q : Int) % ((n : Int) * 64) := by simp
    rw [e]
    have e2 : (q : Int) - (q : Int) % ((n : Int) * 64) = ((n : Int) * 64) * ((q : Int) / ((n : Int) * 64)) := by
      rw [Int.emod_def]; omega
    rw [e2]
    exact Int.mul_emod_right _ _
  generalize q % (n * 64) = i at *
  refine ⟨hA, by omega, by omega, by omega, by omega, by omega, by omega, by omega, by omega, ?_, by omega, by omega, ?_⟩
  · rw [Int.toNat_natCast]
    exact wrap_two _ (by omega)
  · have e3 : (((i / 64 : Nat)) : Int) * 64 + ((i % 64 : Nat) : Int) = (i : Int) := by omega
    rw [e3]
    exact hdiv
end Go.Proofs.Qxb6604432a
