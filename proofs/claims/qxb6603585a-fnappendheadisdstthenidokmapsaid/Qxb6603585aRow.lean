/-
  A SLICE's CELLS, nil or not, under one word; the clones by that word; the bound on lengths of the law on many checks.
-/
import Derived.Test.Qxb6603585aClone
namespace Go.Proofs.Qxb6603585a
open Go.RowKit

/-- The slice that begins at 'ao' has n elements, the cells X: where it has one it begins at a plain address of a block that lies. -/
def Row (w : World) (ao : Option Addr) (n : Nat) (X : Nat → Value) : Prop :=
  0 < n → ∃ b off, ao = some ⟨b, off, none⟩ ∧ b < w.heap.size ∧ ∀ j, j < n → w.cell? ⟨b, off + j, none⟩ = some (X j)

theorem Row.below {w w' : World} {ao : Option Addr} {n : Nat} {X : Nat → Value} (h : Row w ao n X) (hb : Below w.heap.size w w') : Row w' ao n X := by
  intro hn
  obtain ⟨b, off, e, hlt, hc⟩ := h hn
  exact ⟨b, off, e, Nat.lt_of_lt_of_le hlt hb.size, fun j hj => (hb.cell (p := ⟨b, off + j, none⟩) hlt).trans (hc j hj)⟩

theorem Row.made (w : World) (X : Nat → Value) (n : Nat) (e : TypeId) : Row (w.alloc (.cells (row X n) e)) (some ⟨w.heap.size, 0, none⟩) n X := by
  intro _
  refine ⟨w.heap.size, 0, rfl, by simp, fun j hj => ?_⟩
  rw [World.cell?_alloc_at _ _ _ _ rfl, Nat.zero_add]
  exact row_get X n j hj

theorem below_alloc (w : World) (o : Obj) : Below w.heap.size w (w.alloc o) := (Below.refl _ _).alloc (Nat.le_refl _) _

theorem cloneBools (ao : Option Addr) (n c : Nat) (X : Nat → Bool) (w : World) (hn : n ≤ 1048576) (hnil : ao = none → n = 0 ∧ c = 0) (h : Row w ao n (fun j => .bool (X j))) :
    Calls Try.prog 8 #[.slice ao n c] w fun e w' => ∃ ao', e = .returned (.slice ao' n n) ∧ Row w' ao' n (fun j => .bool (X j)) ∧ Below w.heap.size w w' := by
  cases ao with
  | none =>
    obtain ⟨rfl, rfl⟩ := hnil rfl
    refine (clone_bools_nil w).mono ?_
    rintro e w' ⟨rfl, rfl⟩
    exact ⟨none, rfl, h, Below.refl _ _⟩
  | some a =>
    by_cases h0 : 0 < n
    · obtain ⟨b, off, ea, hb, hc⟩ := h h0
      obtain rfl : a = ⟨b, off, none⟩ := Option.some.inj ea
      refine (clone_bools b off n c X w hn hb hc).mono ?_
      rintro e w' ⟨rfl, rfl⟩
      exact ⟨_, rfl, Row.made _ _ _ _, below_alloc _ _⟩
    · obtain rfl : n = 0 := by omega
      refine (clone_bools_0 a c X w).mono ?_
      rintro e w' ⟨rfl, rfl⟩
      exact ⟨_, rfl, Row.made _ _ _ _, below_alloc _ _⟩

theorem cloneStrings (ao : Option Addr) (n c : Nat) (X : Nat → ByteArray) (w : World) (hn : n ≤ 1048576) (hnil : ao = none → n = 0 ∧ c = 0) (h : Row w ao n (fun j => .string (X j))) :
    Calls Try.prog 9 #[.slice ao n c] w fun e w' => ∃ ao', e = .returned (.slice ao' n n) ∧ Row w' ao' n (fun j => .string (X j)) ∧ Below w.heap.size w w' := by
  cases ao with
  | none =>
    obtain ⟨rfl, rfl⟩ := hnil rfl
    refine (clone_strings_nil w).mono ?_
    rintro e w' ⟨rfl, rfl⟩
    exact ⟨none, rfl, h, Below.refl _ _⟩
  | some a =>
    by_cases h0 : 0 < n
    · obtain ⟨b, off, ea, hb, hc⟩ := h h0
      obtain rfl : a = ⟨b, off, none⟩ := Option.some.inj ea
      refine (clone_strings b off n c X w hn hb hc).mono ?_
      rintro e w' ⟨rfl, rfl⟩
      exact ⟨_, rfl, Row.made _ _ _ _, below_alloc _ _⟩
    · obtain rfl : n = 0 := by omega
      refine (clone_strings_0 a c X w).mono ?_
      rintro e w' ⟨rfl, rfl⟩
      exact ⟨_, rfl, Row.made _ _ _ _, below_alloc _ _⟩

/-- The call returned a bool. -/
def SomeBool (e : Ending) : Prop := ∃ r, e = .returned (.bool r)

set_option maxHeartbeats 800000 in
/-- zzBytes_FnCheckFailsOnceAnyErrorCameAndStays: some bool; the world stands. -/
theorem bytes7 (id : Int) (cmd : ByteArray) (f : Bool) (ab : Option Addr) (nb cb : Nat) (ac : Option Addr) (nc cc : Nat) (S : Nat → ByteArray) (w : World)
    (h1 : cmd.size ≤ maxLen) (h2 : nb ≤ maxLen) (h3 : nc ≤ maxLen) (hS : ∀ j, (S j).size ≤ maxLen) (hr : Row w ac nc (fun j => .string (S j))) :
    Calls Try.prog 7 #[.int .u64 id, .string cmd, .bool f, .slice ab nb cb, .slice ac nc cc] w fun e w' => SomeBool e ∧ w' = w := by
  unfold maxLen at h1 h2 h3 hS
  by_cases s1 : (1048576 : Int) < cmd.size
  · go_enter Try.func7, Try.ntmps7
    go_wp2
    go_ret
    exact ⟨⟨_, rfl⟩, rfl⟩
  by_cases s2 : (1048576 : Int) < nb
  · go_enter Try.func7, Try.ntmps7
    go_wp2
    go_ret
    exact ⟨⟨_, rfl⟩, rfl⟩
  by_cases s3 : (1048576 : Int) < cmd.size + nb
  · go_enter Try.func7, Try.ntmps7
    go_wp2
    go_ret
    exact ⟨⟨_, rfl⟩, rfl⟩
  by_cases s4 : (1048576 : Int) < nc
  · go_enter Try.func7, Try.ntmps7
    go_wp2
    go_ret
    exact ⟨⟨_, rfl⟩, rfl⟩
  by_cases s5 : (1048576 : Int) < cmd.size + nb + nc
  · go_enter Try.func7, Try.ntmps7
    go_wp2
    go_ret
    exact ⟨⟨_, rfl⟩, rfl⟩
  have Hr : Hid (Row w ac nc (fun j => .string (S j))) := hr
  clear hr
  go_enter Try.func7, Try.ntmps7
  go_wp2
  go_loop [11, 12] (fun z i => ∃ (k : Nat) (m : Int), k ≤ nc ∧ 0 ≤ m ∧ m ≤ 1048576 ∧ i = .int .i64 k ∧ z = .int .i64 m) (fun _ i => nc - (intOf i).toNat)
  case atStart => exact ⟨0, _, Nat.zero_le _, by omega, by omega, rfl, rfl⟩
  case round =>
    obtain ⟨k, m, hk, hm0, hm1, rfl, rfl⟩ := hrel
    by_cases hlt : k < nc
    · obtain ⟨b, off, rfl, hb, hc⟩ := Hr.out (by omega)
      have hck := hc k hlt
      have hSk := hS k
      clear hS hc
      by_cases t1 : (1048576 : Int) < (S k).size
      · go_wp2
        go_ret
        exact ⟨⟨_, rfl⟩, rfl⟩
      by_cases t2 : (1048576 : Int) < m + (S k).size
      · go_wp2
        go_ret
        exact ⟨⟨_, rfl⟩, rfl⟩
      · go_wp2
        go_round
        case rel => exact ⟨k + 1, m + (S k).size, by omega, by omega, by omega, by go_num, rfl⟩
        case measure => simp [intOf]; omega
    · go_wp2
      go_ret
      exact ⟨⟨_, rfl⟩, rfl⟩
end Go.Proofs.Qxb6603585a
