/-
  THE SAME CONTRACTS IN THE FORM THAT THE TWO LAWS ON appendHead TAKE: the slice written out, its cells by index functions.
-/
import Derived.Test.Qxb6603585aHead
namespace Go.Proofs.Qxb6603585a
open Go.RowKit

theorem cloneBytes (ao : Option Addr) (n c : Nat) (X : Nat → Int) (w : World) (hn : n ≤ 1048576) (hnil : ao = none → n = 0 ∧ c = 0) (h : Row w ao n (fun j => .int .u8 (X j))) :
    Calls Try.prog 17 #[.slice ao n c] w fun e w' => ∃ ao', e = .returned (.slice ao' n n) ∧ (ao' = none → n = 0 ∧ n = 0) ∧ Row w' ao' n (fun j => .int .u8 (X j)) ∧ Below w.heap.size w w' := by
  cases ao with
  | none =>
    obtain ⟨rfl, rfl⟩ := hnil rfl
    refine (clone_bytes_nil w).mono ?_
    rintro e w' ⟨rfl, rfl⟩
    exact ⟨none, rfl, fun _ => ⟨rfl, rfl⟩, h, Below.refl _ _⟩
  | some a =>
    by_cases h0 : 0 < n
    · obtain ⟨b, off, ea, hb, hc⟩ := h h0
      obtain rfl : a = ⟨b, off, none⟩ := Option.some.inj ea
      refine (clone_bytes b off n c X w hn hb hc).mono ?_
      rintro e w' ⟨rfl, rfl⟩
      exact ⟨_, rfl, (fun h => by cases h), Row.made _ _ _ _, below_alloc _ _⟩
    · obtain rfl : n = 0 := by omega
      refine (clone_bytes_0 a c X w).mono ?_
      rintro e w' ⟨rfl, rfl⟩
      exact ⟨_, rfl, (fun h => by cases h), Row.made _ _ _ _, below_alloc _ _⟩

/-- What a Row's cells are as a list. -/
theorem Row.holds {w : World} {ao : Option Addr} {n : Nat} {X : Nat → Value} (h : Row w ao n X) : ∀ b, ao = some b → ∀ (j : Nat) u, ((List.range n).map X)[j]? = some u → w.cell? (b.add j) = some u := by
  intro b hb j u hj
  by_cases hlt : j < n
  · obtain ⟨b', off, e, _, hc⟩ := h (by omega)
    rw [hb] at e
    obtain rfl := Option.some.inj e
    rw [Addr.add_lit, hc j hlt]
    simpa [hlt] using hj
  · simp [hlt] at hj

theorem zzhead (ao : Option Addr) (n : Nat) (X : Nat → Int) (id : Int) (ok : Bool) (L : Nat) (H : Nat → Int) (hL : (uintL id).length = L) (hH : ∀ j, (headL id ok).getD j 0 = H j)
    (h0 : 0 ≤ id) (h1 : id ≤ 18446744073709551615) (w : World) (hn : n ≤ 1048576) (hnone : ao = none → n = 0 ∧ n = 0) (hrow : Row w ao n (fun j => .int .u8 (X j))) :
    Calls Try.prog 19 #[.slice ao n n, .int .u64 id, .bool ok] w fun e w' => ∃ g cap, e = .returned (.slice (some ⟨g, 0, none⟩) (n + (8 + L)) cap) ∧ g < w'.heap.size ∧
      (∀ j, j < n → w'.cell? ⟨g, j, none⟩ = some (.int .u8 (X j))) ∧ (∀ j, j < 8 + L → w'.cell? ⟨g, n + j, none⟩ = some (.int .u8 (H j))) ∧ Below w.heap.size w w' := by
  refine (zzhead_full ao n ((List.range n).map fun j => .int .u8 (X j)) id ok h0 h1 w hn hnone (by simp) hrow.holds).mono ?_
  rintro e w' ⟨v, rfl, hown, bel⟩
  have hlen : (cells (headL id ok)).length = 8 + L := by rw [cells, List.length_map, headL_length, hL]
  have h2 := hown.2
  rcases h2 with ⟨_, hz⟩ | ⟨g, cap, cur, rfl, hg, hh, _, _, _, _⟩
  · omega
  have hcells := hown.cells (g := g) rfl
  rw [hlen]
  refine ⟨g, cap, rfl, (Array.getElem?_eq_some_iff.1 hh).1, fun j hj => ?_, fun j hj => ?_, bel⟩
  · have := hcells j (.int .u8 (X j)) (by rw [List.getElem?_append_left (by simpa using hj)]; simp [hj])
    rw [Addr.add_lit, Nat.zero_add] at this
    exact this
  · have hj' : j < (headL id ok).length := by rw [headL_length, hL]; exact hj
    have := hcells (n + j) (.int .u8 (H j)) (by
      rw [List.getElem?_append_right (by simp)]
      simp only [List.length_map, List.length_range, Nat.add_sub_cancel_left, cells, List.getElem?_map]
      rw [← hH j, List.getD_eq_getElem?_getD, List.getElem?_eq_getElem hj']
      simp)
    rw [Addr.add_lit, Nat.zero_add] at this
    exact this

/-- The two bounds on lengths (zzBytes_..): some bool; the world stands. -/
theorem bytes21 (ao : Option Addr) (n c : Nat) (id : Int) (ok : Bool) (w : World) (h : n ≤ maxLen) :
    Calls Try.prog 21 #[.slice ao n c, .int .u64 id, .bool ok] w fun e w' => SomeBool e ∧ w' = w := by
  unfold maxLen at h
  by_cases s1 : (1048576 : Int) < n
  · go_enter Try.func21, Try.ntmps21
    go_wp2
    go_ret
    exact ⟨⟨_, rfl⟩, rfl⟩
  · go_enter Try.func21, Try.ntmps21
    go_wp2
    go_ret
    exact ⟨⟨_, rfl⟩, rfl⟩
theorem bytes16 (ao : Option Addr) (n c : Nat) (id : Int) (ok : Bool) (w : World) (h : n ≤ maxLen) :
    Calls Try.prog 16 #[.slice ao n c, .int .u64 id, .bool ok] w fun e w' => SomeBool e ∧ w' = w := by
  unfold maxLen at h
  by_cases s1 : (1048576 : Int) < n
  · go_enter Try.func16, Try.ntmps16
    go_wp2
    go_ret
    exact ⟨⟨_, rfl⟩, rfl⟩
  · go_enter Try.func16, Try.ntmps16
    go_wp2
    go_ret
    exact ⟨⟨_, rfl⟩, rfl⟩
end Go.Proofs.Qxb6603585a
