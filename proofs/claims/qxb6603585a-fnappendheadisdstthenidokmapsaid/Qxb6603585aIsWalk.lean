/-
  THE LAW 'FnAppendHeadIsDstThenIdOkMap': its walk.
-/
import Derived.Test.Qxb6603585aHead3
import Derived.Deep.QuietTactic
import Derived.BigQuiet
namespace Go.Proofs.Qxb6603585a
open Go.RowKit
set_option linter.unusedVariables false

set_option maxHeartbeats 2000000 in
set_option maxRecDepth 100000 in
theorem is_walk (a0 : Option Addr) (n c : Nat) (X : Nat → Int) (id : Int) (ok : Bool) (L : Nat) (H : Nat → Int) (hL : (uintL id).length = L) (hH : ∀ j, (headL id ok).getD j 0 = H j) (hL9 : L ≤ 9)
    (e0 : H 0 = 131) (e1 : H 1 = 162) (e2 : H 2 = 105) (e3 : H 3 = 100) (eU : ∀ j, j < L → H (4 + j) = (uintL id).getD j 0) (e4 : H (4 + L) = 162) (e5 : H (5 + L) = 111) (e6 : H (6 + L) = 107) (e7 : H (7 + L) = if ok then 195 else 194)
    (h0 : 0 ≤ id) (h1 : id ≤ 18446744073709551615) (w : World) (hl : n ≤ maxLen) (hnil : a0 = none → n = 0 ∧ c = 0) (hrow : Row w a0 n (fun j => .int .u8 (X j))) :
    Calls Try.prog 5 #[.slice a0 n c, .int .u64 id, .bool ok] w fun e w' => e = .returned (.bool true) ∧ Below w.heap.size w w' := by
  go_enter Try.func5, Try.ntmps5
  go_wp2_with fail
  refine (bytes16 a0 n c id ok _ hl).mono ?_
  rintro e w' ⟨⟨r, rfl⟩, rfl⟩
  cases r
  · go_wp2_with fail
    go_ret
    exact ⟨rfl, Below.refl _ _⟩
  unfold maxLen at hl
  by_cases s1 : (1048576 : Int) < n
  · go_wp2_with fail
    go_ret
    exact ⟨rfl, Below.refl _ _⟩
  have HL : Hid ((uintL id).length = L) := hL
  have HH : Hid (∀ j, (headL id ok).getD j 0 = H j) := hH
  have E : Hid (H 0 = 131 ∧ H 1 = 162 ∧ H 2 = 105 ∧ H 3 = 100 ∧ (∀ j, j < L → H (4 + j) = (uintL id).getD j 0) ∧ H (4 + L) = 162 ∧ H (5 + L) = 111 ∧ H (6 + L) = 107 ∧ H (7 + L) = if ok then 195 else 194) := ⟨e0, e1, e2, e3, eU, e4, e5, e6, e7⟩
  clear hL hH e0 e1 e2 e3 eU e4 e5 e6 e7
  go_wp2_with fail
  refine (cloneBytes a0 n c X _ (by omega) hnil hrow).mono ?_
  rintro e w1 ⟨a1, rfl, nil1, row1, bel1⟩
  go_wp2_with fail
  refine (cloneBytes a1 n n X _ (by omega) nil1 row1).mono ?_
  rintro e w2 ⟨a2, rfl, nil2, row2, bel2⟩
  go_wp2_with fail
  refine (width id _).mono ?_
  rw [HL.out]
  rintro e w5 ⟨rfl, rfl⟩
  go_wp2_with fail
  refine (zzhead_cap a1 n X id ok L H HL.out HH.out h0 h1 _ (by omega) nil1 (row1.below bel2)).mono ?_
  rintro e w4 ⟨gg, cg, rfl, hcap, hmax, ltG, cG1, cG2, bel4⟩
  have row4 : Hid (Row w4 a2 n (fun j => .int .u8 (X j))) := row2.below bel4
  have bel : Hid (Below w'.heap.size w' w4) := bel1.trans ((bel2.mono bel1.size).trans (bel4.mono (Nat.le_trans bel1.size bel2.size)))
  clear row1 row2 bel1 bel2 bel4 hrow hnil nil1 nil2
  unfold maxLen at hmax
  have t1 : ((n : Int) + (8 + L) != n + 8 + L) = false := by simp; omega
  go_wp2_with fail
  go_loopw [11] (fun i wr => ∃ k q : Nat, k ≤ n ∧ i = .int .i64 k ∧ wr = w4.drewN q) (fun i _ => n - (intOf i).toNat)
  case atStart => exact ⟨0, 0, Nat.zero_le _, rfl, rfl⟩
  case round =>
    obtain ⟨k, q, hk, rfl, rfl⟩ := hrel
    by_cases hlt : k < n
    · obtain ⟨b2, off2, rfl, hb2, hc2⟩ := row4.out (by omega)
      have c1 := cG1 k hlt
      have c2 : w4.cell? ⟨b2, off2 + k, none⟩ = some (.int .u8 (X k)) := hc2 k hlt
      have d1 : (k : Int) < (n : Int) + (8 + L) := by omega
      have d2 : (k : Int) < (n : Int) := by omega
      clear cG1 cG2 hc2
      go_wp2
      go_quiet (fail)
      go_wp2
      exact ⟨⟨k + 1, q + nq, by omega, by go_num, rfl⟩, by simp [intOf]; omega⟩
    · clear cG1 row4
      obtain ⟨e0, e1, e2, e3, eU, e4, e5, e6, e7⟩ := E.out
      have g0 : w4.cell? ⟨gg, n, none⟩ = some (.int .u8 131) := by have := cG2 0 (by omega); rw [e0] at this; exact this
      have g1 : w4.cell? ⟨gg, n + 1, none⟩ = some (.int .u8 162) := by have := cG2 1 (by omega); rw [e1] at this; exact this
      have g2 : w4.cell? ⟨gg, n + 2, none⟩ = some (.int .u8 105) := by have := cG2 2 (by omega); rw [e2] at this; exact this
      have g3 : w4.cell? ⟨gg, n + 3, none⟩ = some (.int .u8 100) := by have := cG2 3 (by omega); rw [e3] at this; exact this
      have g4 : w4.cell? ⟨gg, n + 4 + L, none⟩ = some (.int .u8 162) := by have := cG2 (4 + L) (by omega); rw [e4, ← Nat.add_assoc] at this; exact this
      have g5 : w4.cell? ⟨gg, n + 4 + L + 1, none⟩ = some (.int .u8 111) := by have := cG2 (5 + L) (by omega); rw [e5, show n + (5 + L) = n + 4 + L + 1 by omega] at this; exact this
      have g6 : w4.cell? ⟨gg, n + 4 + L + 2, none⟩ = some (.int .u8 107) := by have := cG2 (6 + L) (by omega); rw [e6, show n + (6 + L) = n + 4 + L + 2 by omega] at this; exact this
      have g7 : w4.cell? ⟨gg, n + 4 + L + 3, none⟩ = some (.int .u8 (if ok then 195 else 194)) := by have := cG2 (7 + L) (by omega); rw [e7, show n + (7 + L) = n + 4 + L + 3 by omega] at this; exact this
      have gU : Hid (∀ j, j < L → w4.cell? ⟨gg, n + 4 + j, none⟩ = some (.int .u8 ((uintL id).getD j 0))) := fun j hj => by have := cG2 (4 + j) (by omega); rw [eU j hj, ← Nat.add_assoc] at this; exact this
      clear cG2 e0 e1 e2 e3 eU e4 e5 e6 e7 E HH
      go_wp2_with fail
      refine (reads gg (n + 4) (cg - (n + 4)) id L HL.out h0 h1 (w4.drewN q) (fun j hj => gU.out j hj)).mono ?_
      rintro e w6 ⟨rfl, rfl⟩
      cases ok
      · go_wp2_with fail
        go_ret
        exact ⟨rfl, below_drewN bel.out _⟩
      · go_wp2_with fail
        go_ret
        exact ⟨rfl, below_drewN bel.out _⟩
end Go.Proofs.Qxb6603585a
