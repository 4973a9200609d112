/-
  THE LAW 'FnAppendHeadExtendsDstByItsOwnHead': its walk.
-/
import Derived.Test.Qxb6603585aHead2
import Derived.Deep.QuietTactic
import Derived.BigQuiet
namespace Go.Proofs.Qxb6603585a
open Go.RowKit
set_option linter.unusedVariables false

set_option maxHeartbeats 2000000 in
set_option maxRecDepth 100000 in
theorem ext_walk (a0 : Option Addr) (n c : Nat) (X : Nat → Int) (id : Int) (ok : Bool) (L : Nat) (H : Nat → Int) (hL : (uintL id).length = L) (hH : ∀ j, (headL id ok).getD j 0 = H j) (hL9 : L ≤ 9) (h131 : H 0 = 131)
    (h0 : 0 ≤ id) (h1 : id ≤ 18446744073709551615) (w : World) (hl : n ≤ maxLen) (hnil : a0 = none → n = 0 ∧ c = 0) (hrow : Row w a0 n (fun j => .int .u8 (X j))) :
    Calls Try.prog 6 #[.slice a0 n c, .int .u64 id, .bool ok] w fun e w' => e = .returned (.bool true) ∧ Below w.heap.size w w' := by
  go_enter Try.func6, Try.ntmps6
  go_wp2_with fail
  refine (bytes21 a0 n c id ok _ hl).mono ?_
  rintro e w' ⟨⟨r, rfl⟩, rfl⟩
  cases r
  · go_wp2_with fail
    go_ret
    exact ⟨rfl, Below.refl _ _⟩
  unfold maxLen at hl
  by_cases s1 : (1048576 : Int) < n
  · go_wp2_with fail
    go_ret
    exact ⟨rfl, Below.refl _ _⟩
  have HL : Hid ((uintL id).length = L) := hL
  have HH : Hid (∀ j, (headL id ok).getD j 0 = H j) := hH
  clear hL hH
  go_wp2_with fail
  refine (cloneBytes a0 n c X _ (by omega) hnil hrow).mono ?_
  rintro e w1 ⟨a1, rfl, nil1, row1, bel1⟩
  go_wp2_with fail
  refine (cloneBytes a1 n n X _ (by omega) nil1 row1).mono ?_
  rintro e w2 ⟨a2, rfl, nil2, row2, bel2⟩
  go_wp2_with fail
  refine (zzhead none 0 X id ok L H HL.out HH.out h0 h1 _ (by omega) (fun _ => ⟨rfl, rfl⟩) (fun h => absurd h (Nat.lt_irrefl _))).mono ?_
  rintro e w3 ⟨gh, ch, rfl, ltH, _, cH, bel3⟩
  go_wp2_with fail
  refine (zzhead a1 n X id ok L H HL.out HH.out h0 h1 _ (by omega) nil1 ((row1.below bel2).below bel3)).mono ?_
  rintro e w4 ⟨gg, cg, rfl, ltG, cG1, cG2, bel4⟩
  have cH4 : ∀ j, j < 8 + L → w4.cell? ⟨gh, j, none⟩ = some (.int .u8 (H j)) := fun j hj => by
    have := cH j hj
    rw [Nat.zero_add] at this
    rw [bel4.cell (p := ⟨gh, j, none⟩) ltH]; exact this
  have row4 : Hid (Row w4 a2 n (fun j => .int .u8 (X j))) := (row2.below bel3).below bel4
  have bel : Hid (Below w'.heap.size w' w4) := bel1.trans ((bel2.mono bel1.size).trans ((bel3.mono (Nat.le_trans bel1.size bel2.size)).trans (bel4.mono (Nat.le_trans bel1.size (Nat.le_trans bel2.size bel3.size)))))
  clear cH row1 row2 bel1 bel2 bel3 bel4 hrow hnil nil1 nil2
  have t1 : ((8 : Int) + L != 8 + L) = false := by simp
  have cH0 := cH4 0 (by omega)
  rw [h131] at cH0
  go_wp2_with fail
  refine (width id _).mono ?_
  rw [HL.out]
  rintro e w5 ⟨rfl, rfl⟩
  go_wp2_with fail
  go_loopw [11] (fun i wr => ∃ k q : Nat, k ≤ n ∧ i = .int .i64 k ∧ wr = w5.drewN q) (fun i _ => n - (intOf i).toNat)
  case atStart => exact ⟨0, 0, Nat.zero_le _, rfl, rfl⟩
  case round =>
    obtain ⟨k, q, hk, rfl, rfl⟩ := hrel
    by_cases hlt : k < n
    · obtain ⟨b2, off2, rfl, hb2, hc2⟩ := row4.out (by omega)
      have c1 := cG1 k hlt
      have c2 : w5.cell? ⟨b2, off2 + k, none⟩ = some (.int .u8 (X k)) := hc2 k hlt
      have d1 : (k : Int) < (n : Int) + (8 + L) := by omega
      have d2 : (k : Int) < (n : Int) := by omega
      clear cG1 cG2 cH4 hc2 cH0
      go_wp2
      go_quiet (fail)
      go_wp2
      exact ⟨⟨k + 1, q + nq, by omega, by go_num, rfl⟩, by simp [intOf]; omega⟩
    · clear cG1 row4 cH0
      go_wp2
      go_loopw [12] (fun i wr => ∃ k q : Nat, k ≤ 8 + L ∧ i = .int .i64 k ∧ wr = w5.drewN q) (fun i _ => 8 + L - (intOf i).toNat)
      case atStart => exact ⟨0, q, Nat.zero_le _, rfl, rfl⟩
      case round =>
        obtain ⟨k2, q2, hk2, rfl, rfl⟩ := hrel
        by_cases hlt2 : k2 < 8 + L
        · have c1 := cH4 k2 hlt2
          have c2 := cG2 k2 hlt2
          have d1 : (n : Int) + (k2 : Int) < (n : Int) + (8 + L) := by omega
          have d2 : (k2 : Int) < 8 + (L : Int) := by omega
          have d3 : ((n : Int) + (k2 : Int)).toNat = n + k2 := by omega
          have d4 : (0 : Int) ≤ (n : Int) + (k2 : Int) := by omega
          clear cG2 cH4
          go_wp2
          go_quiet (fail)
          go_wp2
          exact ⟨⟨k2 + 1, q2 + nq, by omega, by go_num, rfl⟩, by simp [intOf]; omega⟩
        · clear cG2 cH4
          go_wp2
          go_ret
          exact ⟨rfl, below_drewN bel.out _⟩
end Go.Proofs.Qxb6603585a
