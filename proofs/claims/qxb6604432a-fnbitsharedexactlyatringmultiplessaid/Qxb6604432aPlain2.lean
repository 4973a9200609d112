/-
  THE PLAIN LAW OF SHARED BITS: two numbers x apart (modulo 65536) share their place in a ring of a power of two exactly where x is a multiple of the ring's size.
-/
import Derived.Test.Qxb6604432aPlain
import Derived.Test.Qxb6604432aShared
namespace Go.Proofs.Qxb6604432a

theorem shared_iff (q x n k : Nat) (hq : q ≤ 65535) (hx : x ≤ 65535) (hk : n = 2 ^ k) : q % (n * 64) = (q + x) % 65536 % (n * 64) ↔ x % (n * 64) = 0 := by
  have hS : n * 64 = 2 ^ (k + 6) := by rw [hk, Nat.pow_add]
  rw [hS]
  by_cases h : k + 6 ≤ 16
  · have hd : 2 ^ (k + 6) ∣ 65536 := by
      have e : 65536 = 2 ^ 16 := by decide
      rw [e]
      exact Nat.pow_dvd_pow 2 h
    rw [Nat.mod_mod_of_dvd _ hd]
    generalize 2 ^ (k + 6) = S
    have hI : ((q : Int) + x) % S = (q : Int) % S ↔ (x : Int) % S = 0 := by
      rw [Int.emod_eq_emod_iff_emod_sub_eq_zero, show (q : Int) + x - q = x by omega]
    constructor
    · intro he
      have h1 : ((q : Int) + x) % S = (q : Int) % S := by exact_mod_cast he.symm
      exact_mod_cast hI.1 h1
    · intro he
      have h1 : (x : Int) % S = 0 := by exact_mod_cast he
      have h2 := hI.2 h1
      exact_mod_cast h2.symm
  · have hbig : 131072 ≤ 2 ^ (k + 6) := by
      have e : 131072 = 2 ^ 17 := by decide
      rw [e]
      exact Nat.pow_le_pow_right (by decide) (by omega)
    generalize 2 ^ (k + 6) = S at hbig
    rw [Nat.mod_eq_of_lt (show q < S by omega), Nat.mod_eq_of_lt (show (q + x) % 65536 < S by omega), Nat.mod_eq_of_lt (show x < S by omega)]
    omega

theorem at_of (q : Nat) (hq : q ≤ 65535) (n : Nat) (hp : ∃ k, n = 2 ^ k) (hn : n ≤ 65536) :
    At n q ((q % (n * 64) : Nat) : Int) ((q % (n * 64) / 64 : Nat) : Int) ((q % (n * 64) % 64 : Nat) : Int) ((2 ^ (q % (n * 64) % 64) : Nat) : Int) := by
  obtain ⟨f1, f2, f3, f4, f5, f6, f7, f8, f9, f10, _⟩ := place_facts q hq n hp hn
  exact ⟨f1, f2, f3, f4, f5, f6, f7, f8, f9, f10⟩

theorem mask_ne (s : Nat) : (((2 ^ s : Nat) : Int) != 0) = true := by
  have h : 0 < 2 ^ s := Nat.two_pow_pos s
  rw [bne_iff_ne]
  generalize (2 ^ s : Nat) = t at h
  omega

theorem same_place (i j : Nat) : (((((i / 64 : Nat)) : Int) == ((j / 64 : Nat) : Int)) && (((2 ^ (i % 64) : Nat) : Int) == ((2 ^ (j % 64) : Nat) : Int))) = decide (i = j) := by
  rw [Bool.eq_iff_iff]
  simp only [Bool.and_eq_true, beq_iff_eq, decide_eq_true_eq]
  constructor
  · rintro ⟨h1, h2⟩
    have h2' : 2 ^ (i % 64) = 2 ^ (j % 64) := by exact_mod_cast h2
    have h3 := (Nat.pow_right_inj (by decide : 1 < 2)).1 h2'
    omega
  · rintro rfl
    exact ⟨rfl, rfl⟩

theorem shared_facts (q x : Nat) (hq : q ≤ 65535) (hx : x ≤ 65535) (n : Nat) (hp : ∃ k, n = 2 ^ k) (hn : n ≤ 65536) :
    At n q ((q % (n * 64) : Nat) : Int) ((q % (n * 64) / 64 : Nat) : Int) ((q % (n * 64) % 64 : Nat) : Int) ((2 ^ (q % (n * 64) % 64) : Nat) : Int) ∧
    At n (((q + x) % 65536 : Nat) : Int) (((q + x) % 65536 % (n * 64) : Nat) : Int) (((q + x) % 65536 % (n * 64) / 64 : Nat) : Int) (((q + x) % 65536 % (n * 64) % 64 : Nat) : Int) ((2 ^ ((q + x) % 65536 % (n * 64) % 64) : Nat) : Int) ∧
    (((2 ^ (q % (n * 64) % 64) : Nat) : Int) != 0) = true ∧ (((2 ^ ((q + x) % 65536 % (n * 64) % 64) : Nat) : Int) != 0) = true ∧
    ((((q % (n * 64) / 64 : Nat) : Int) == (((q + x) % 65536 % (n * 64) / 64 : Nat) : Int)) && (((2 ^ (q % (n * 64) % 64) : Nat) : Int) == ((2 ^ ((q + x) % 65536 % (n * 64) % 64) : Nat) : Int))) = ((x : Int) % (n * 64) == 0) := by
  refine ⟨at_of q hq n hp hn, at_of _ (by omega) n hp hn, mask_ne _, mask_ne _, ?_⟩
  rw [same_place]
  obtain ⟨k, hk⟩ := hp
  have h := shared_iff q x n k hq hx hk
  have e : ((x : Int) % (n * 64) == 0) = decide (x % (n * 64) = 0) := by
    rw [Bool.eq_iff_iff]
    simp only [beq_iff_eq, decide_eq_true_eq]
    constructor
    · intro he; exact_mod_cast he
    · intro he; exact_mod_cast he
  rw [e]
  exact decide_eq_decide.2 h

theorem wrap16 (q x : Nat) : IntKind.u16.wrap ((q : Int) + x) = (((q + x) % 65536 : Nat) : Int) := by
  rw [IntKind.wrap_u16]
  omega
end Go.Proofs.Qxb6604432a
