/-
  zzhead WITH WHAT IS KNOWN OF THE CAPACITY; the decoder over 'uintL'.
-/
import Derived.Test.Qxb6603585aHead2
import Derived.Test.Qxb6603585aReads
namespace Go.Proofs.Qxb6603585a
open Go.RowKit

theorem zzhead_cap (ao : Option Addr) (n : Nat) (X : Nat → Int) (id : Int) (ok : Bool) (L : Nat) (H : Nat → Int) (hL : (uintL id).length = L) (hH : ∀ j, (headL id ok).getD j 0 = H j)
    (h0 : 0 ≤ id) (h1 : id ≤ 18446744073709551615) (w : World) (hn : n ≤ 1048576) (hnone : ao = none → n = 0 ∧ n = 0) (hrow : Row w ao n (fun j => .int .u8 (X j))) :
    Calls Try.prog 19 #[.slice ao n n, .int .u64 id, .bool ok] w fun e w' => ∃ g cap, e = .returned (.slice (some ⟨g, 0, none⟩) (n + (8 + L)) cap) ∧ n + (8 + L) ≤ cap ∧ cap ≤ maxLen ∧ g < w'.heap.size ∧
      (∀ j, j < n → w'.cell? ⟨g, j, none⟩ = some (.int .u8 (X j))) ∧ (∀ j, j < 8 + L → w'.cell? ⟨g, n + j, none⟩ = some (.int .u8 (H j))) ∧ Below w.heap.size w w' := by
  refine (zzhead_full ao n ((List.range n).map fun j => .int .u8 (X j)) id ok h0 h1 w hn hnone (by simp) hrow.holds).mono ?_
  rintro e w' ⟨v, rfl, hown, bel⟩
  have hlen : (cells (headL id ok)).length = 8 + L := by rw [cells, List.length_map, headL_length, hL]
  have h2 := hown.2
  rcases h2 with ⟨_, hz⟩ | ⟨g, cap, cur, rfl, hg, hh, hcap, hmax, _, _⟩
  · omega
  have hcells := hown.cells (g := g) rfl
  rw [hlen] at hcap ⊢
  refine ⟨g, cap, rfl, hcap, hmax, (Array.getElem?_eq_some_iff.1 hh).1, fun j hj => ?_, fun j hj => ?_, bel⟩
  · have := hcells j (.int .u8 (X j)) (by rw [List.getElem?_append_left (by simpa using hj)]; simp [hj])
    rw [Addr.add_lit, Nat.zero_add] at this
    exact this
  · have hj' : j < (headL id ok).length := by rw [headL_length, hL]; exact hj
    have := hcells (n + j) (.int .u8 (H j)) (by
      rw [List.getElem?_append_right (by simp)]
      simp only [List.length_map, List.length_range, Nat.add_sub_cancel_left, cells, List.getElem?_map]
      rw [← hH j, List.getD_eq_getElem?_getD, List.getElem?_eq_getElem hj']
      simp)
    rw [Addr.add_lit, Nat.zero_add] at this
    exact this

theorem getD_bd (l : List Int) (h : ∀ x ∈ l, 0 ≤ x ∧ x ≤ 255) (j : Nat) : 0 ≤ l.getD j 0 ∧ l.getD j 0 ≤ 255 := by
  rw [List.getD_eq_getElem?_getD]
  cases hj : l[j]? with
  | none => simp
  | some s => exact h s (List.mem_of_getElem? hj)

/-- b1ReadsAsUint over the shortest form of id: true. -/
theorem reads (g off c : Nat) (id : Int) (L : Nat) (hL : (uintL id).length = L) (h0 : 0 ≤ id) (h1 : id ≤ 18446744073709551615) (w : World) (hc : ∀ j, j < L → w.cell? ⟨g, off + j, none⟩ = some (.int .u8 ((uintL id).getD j 0))) :
    Calls Try.prog 20 #[.slice (some ⟨g, off, none⟩) L c, .int .u64 id] w fun e w' => e = .returned (.bool true) ∧ w' = w := by
  subst hL
  by_cases c1 : id < 128
  · have e : uintL id = [id] := by unfold uintL; rw [if_pos c1]
    rw [e] at hc ⊢
    exact reads_1 g off c id h0 c1 w (hc 0 (by simp))
  by_cases c2 : id ≤ 255
  · have e : uintL id = [204, id] := by unfold uintL; rw [if_neg c1, if_pos c2]
    rw [e] at hc ⊢
    exact reads_2 g off c _ id (getD_bd _ (by intro x hx; simp at hx; omega)) (by simp [val]) rfl w hc
  by_cases c3 : id ≤ 65535
  · have e : uintL id = [205, id / 256, id % 256] := by unfold uintL; rw [if_neg c1, if_neg c2, if_pos c3]
    rw [e] at hc ⊢
    exact reads_3 g off c _ id (getD_bd _ (by intro x hx; simp at hx; omega)) (by simp [val]; omega) rfl w hc
  by_cases c4 : id ≤ 4294967295
  · have e : uintL id = [206, id / 16777216, id / 65536 % 256, id / 256 % 256, id % 256] := by unfold uintL; rw [if_neg c1, if_neg c2, if_neg c3, if_pos c4]
    rw [e] at hc ⊢
    exact reads_5 g off c _ id (getD_bd _ (by intro x hx; simp at hx; omega)) (by simp [val]; omega) rfl w hc
  · have e : uintL id = [207, id / 72057594037927936, id / 281474976710656 % 256, id / 1099511627776 % 256, id / 4294967296 % 256, id / 16777216 % 256, id / 65536 % 256, id / 256 % 256, id % 256] := by unfold uintL; rw [if_neg c1, if_neg c2, if_neg c3, if_neg c4]
    rw [e] at hc ⊢
    exact reads_9 g off c _ id (getD_bd _ (by intro x hx; simp at hx; omega)) (by simp [val]; omega) rfl w hc
end Go.Proofs.Qxb6603585a
