/-
  THE LAW 'FnCheckFailsOnceAnyErrorCameAndStays': its walks.
-/
import Derived.Test.Qxb6603585aRow
import Derived.Test.Qxb6603585aReq
namespace Go.Proofs.Qxb6603585a
open Go.RowKit
set_option linter.unusedVariables false

set_option maxHeartbeats 2000000 in
set_option maxRecDepth 100000 in
theorem fails_false (id : Int) (cmd : ByteArray) (ab : Option Addr) (nb cb : Nat) (Xb : Nat → Bool) (ac : Option Addr) (nc cc : Nat) (S : Nat → ByteArray) (w : World)
    (h1 : cmd.size ≤ maxLen) (h2 : nb ≤ maxLen) (h3 : nc ≤ maxLen) (hS : ∀ j, (S j).size ≤ maxLen) (nilb : ab = none → nb = 0 ∧ cb = 0) (nilc : ac = none → nc = 0 ∧ cc = 0)
    (hrb : Row w ab nb (fun j => .bool (Xb j))) (hrc : Row w ac nc (fun j => .string (S j))) :
    Calls Try.prog 3 #[.int .u64 id, .string cmd, .bool false, .slice ab nb cb, .slice ac nc cc] w fun e w' => e = .returned (.bool true) ∧ Below w.heap.size w w' := by
  go_enter Try.func3, Try.ntmps3
  go_wp2_with fail
  refine (bytes7 id cmd _ ab nb cb ac nc cc S _ h1 h2 h3 hS hrc).mono ?_
  rintro e w' ⟨⟨r, rfl⟩, rfl⟩
  cases r
  · go_wp2_with fail
    go_ret
    exact ⟨rfl, Below.refl _ _⟩
  unfold maxLen at h1 h2 h3 hS
  by_cases s1 : (1048576 : Int) < cmd.size
  · go_wp2_with fail
    go_ret
    exact ⟨rfl, Below.refl _ _⟩
  by_cases s2 : (1048576 : Int) < nb
  · go_wp2_with fail
    go_ret
    exact ⟨rfl, Below.refl _ _⟩
  by_cases s3 : (1048576 : Int) < nc
  · go_wp2_with fail
    go_ret
    exact ⟨rfl, Below.refl _ _⟩
  by_cases s4 : (1048576 : Int) < cmd.size + nb + 16 * nc
  · go_wp2_with fail
    go_ret
    exact ⟨rfl, Below.refl _ _⟩
  have Hr : Hid (Row w' ac nc (fun j => .string (S j))) := hrc
  go_wp2_with fail
  go_loop [11, 12] (fun z i => ∃ (k : Nat) (m : Int), k ≤ nc ∧ 0 ≤ m ∧ m ≤ 1048576 ∧ i = .int .i64 k ∧ z = .int .i64 m) (fun _ i => nc - (intOf i).toNat)
  case atStart => exact ⟨0, _, Nat.zero_le _, by omega, by omega, rfl, rfl⟩
  case round =>
    obtain ⟨k, m, hk, hm0, hm1, rfl, rfl⟩ := hrel
    by_cases hlt : k < nc
    · obtain ⟨b, off, rfl, hb, hc⟩ := Hr.out (by omega)
      have hck := hc k hlt
      have hSk := hS k
      clear hS hc
      by_cases t1 : (1048576 : Int) < (S k).size
      · go_wp2_with fail
        go_ret
        exact ⟨rfl, Below.refl _ _⟩
      by_cases t2 : (1048576 : Int) < m + (S k).size
      · go_wp2_with fail
        go_ret
        exact ⟨rfl, Below.refl _ _⟩
      · go_wp2_with fail
        go_round
        case rel => exact ⟨k + 1, m + (S k).size, by omega, by omega, by omega, by go_num, rfl⟩
        case measure => simp [intOf]; omega
    · go_wp2_with fail
      refine (cloneBools ab nb cb Xb _ (by omega) nilb hrb).mono ?_
      rintro e w1 ⟨ab', rfl, hrb1, bel1⟩
      go_wp2_with fail
      refine (cloneStrings ac nc cc S _ (by omega) nilc (hrc.below bel1)).mono ?_
      rintro e w2 ⟨ac', rfl, hrc2, bel2⟩
      have hrb2 := hrb1.below bel2
      have bel : Hid (Below w'.heap.size w' w2) := bel1.trans (bel2.mono bel1.size)
      have Hb : Hid (Row w2 ab' nb (fun j => .bool (Xb j))) := hrb2
      have Hc : Hid (Row w2 ac' nc (fun j => .string (S j))) := hrc2
      clear hrb hrc hrb1 hrc2 hrb2 Hr bel1 bel2 nilb nilc hm0 hm1 hk hS
      go_wp2_with fail
      refine (newReq_ok _ _ _).mono ?_
      rintro e w3 ⟨rfl, rfl⟩
      go_wp2_with fail
      refine (failed_no _ _ (by simp [go_sem])).mono ?_
      rintro e w3 ⟨rfl, rfl⟩
      go_wp2_with fail
      go_loopw [14, 15] (fun an i wr => ∃ k : Nat, k ≤ nb ∧ i = .int .i64 k ∧ ((an = .bool false ∧ wr = (w2.alloc (.map #[] 0)).alloc (.cells #[.int .u64 id, .string cmd, .map (some w2.heap.size), .nilIface] 36)) ∨ (an = .bool true ∧ wr = (w2.alloc (.map #[] 0)).alloc (.cells #[.int .u64 id, .string cmd, .map (some w2.heap.size), .iface 45 (.string badReq)] 36)))) (fun _ i _ => nb - (intOf i).toNat)
      case atStart => exact ⟨0, Nat.zero_le _, rfl, .inl ⟨rfl, rfl⟩⟩
      case round =>
        obtain ⟨k, hk, rfl, hor⟩ := hrel
        rcases hor with ⟨rfl, rfl⟩ | ⟨rfl, rfl⟩
        · by_cases hlb : k < nb
          · obtain ⟨b1, off1, rfl, hb1, hc1⟩ := Hb.out (by omega)
            have hcb : w2.cell? ⟨b1, off1 + k, none⟩ = some (.bool (Xb k)) := hc1 k hlb
            clear hc1
            by_cases hlc : k < nc
            · obtain ⟨b2, off2, rfl, hb2, hc2⟩ := Hc.out (by omega)
              have hcc : w2.cell? ⟨b2, off2 + k, none⟩ = some (.string (S k)) := hc2 k hlc
              clear hc2
              cases hX : Xb k <;> rw [hX] at hcb
              · go_wp2_with fail
                refine (checkWith_no _ _ _).mono ?_
                rintro e w' ⟨rfl, rfl⟩
                go_wp2_with fail
                refine (failed_no _ _ (by simp [go_sem])).mono ?_
                rintro e w' ⟨rfl, rfl⟩
                go_wp2_with fail
                go_roundw
                case rel => refine ⟨k + 1, by omega, by go_num, ?_⟩; simp
                case measure => simp [intOf]; omega
              · go_wp2_with fail
                refine (checkWith_yes _ _ _ _ (by simp [go_sem]; rfl) (by simp [go_sem])).mono ?_
                rintro e w' ⟨rfl, rfl⟩
                go_wp2_with fail
                refine (failed_yes _ badReq _ (by simp [go_sem])).mono ?_
                rintro e w' ⟨rfl, rfl⟩
                go_wp2_with fail
                refine (isBad_yes _ _ (by simp [go_sem])).mono ?_
                rintro e w' ⟨rfl, rfl⟩
                go_wp2_with fail
                go_roundw
                case rel => refine ⟨k + 1, by omega, by go_num, ?_⟩; simp
                case measure => simp [intOf]; omega
            · cases hX : Xb k <;> rw [hX] at hcb
              · go_wp2_with fail
                refine (checkWith_no _ _ _).mono ?_
                rintro e w' ⟨rfl, rfl⟩
                go_wp2_with fail
                refine (failed_no _ _ (by simp [go_sem])).mono ?_
                rintro e w' ⟨rfl, rfl⟩
                go_wp2_with fail
                go_roundw
                case rel => refine ⟨k + 1, by omega, by go_num, ?_⟩; simp
                case measure => simp [intOf]; omega
              · go_wp2_with fail
                refine (checkWith_yes _ _ _ _ (by simp [go_sem]; rfl) (by simp [go_sem])).mono ?_
                rintro e w' ⟨rfl, rfl⟩
                go_wp2_with fail
                refine (failed_yes _ badReq _ (by simp [go_sem])).mono ?_
                rintro e w' ⟨rfl, rfl⟩
                go_wp2_with fail
                refine (isBad_yes _ _ (by simp [go_sem])).mono ?_
                rintro e w' ⟨rfl, rfl⟩
                go_wp2_with fail
                go_roundw
                case rel => refine ⟨k + 1, by omega, by go_num, ?_⟩; simp
                case measure => simp [intOf]; omega
          · go_wp2_with fail
            go_ret
            exact ⟨rfl, (bel.out.alloc bel.out.size _).alloc (by have := bel.out.size; simp; omega) _⟩
        · by_cases hlb : k < nb
          · obtain ⟨b1, off1, rfl, hb1, hc1⟩ := Hb.out (by omega)
            have hcb : w2.cell? ⟨b1, off1 + k, none⟩ = some (.bool (Xb k)) := hc1 k hlb
            clear hc1
            by_cases hlc : k < nc
            · obtain ⟨b2, off2, rfl, hb2, hc2⟩ := Hc.out (by omega)
              have hcc : w2.cell? ⟨b2, off2 + k, none⟩ = some (.string (S k)) := hc2 k hlc
              clear hc2
              cases hX : Xb k <;> rw [hX] at hcb
              · go_wp2_with fail
                refine (checkWith_no _ _ _).mono ?_
                rintro e w' ⟨rfl, rfl⟩
                go_wp2_with fail
                refine (failed_yes _ badReq _ (by simp [go_sem])).mono ?_
                rintro e w' ⟨rfl, rfl⟩
                go_wp2_with fail
                refine (isBad_yes _ _ (by simp [go_sem])).mono ?_
                rintro e w' ⟨rfl, rfl⟩
                go_wp2_with fail
                go_roundw
                case rel => refine ⟨k + 1, by omega, by go_num, ?_⟩; simp
                case measure => simp [intOf]; omega
              · go_wp2_with fail
                refine (checkWith_yes _ _ _ _ (by simp [go_sem]; rfl) (by simp [go_sem])).mono ?_
                rintro e w' ⟨rfl, rfl⟩
                go_wp2_with fail
                refine (failed_yes _ badReq _ (by simp [go_sem])).mono ?_
                rintro e w' ⟨rfl, rfl⟩
                go_wp2_with fail
                refine (isBad_yes _ _ (by simp [go_sem])).mono ?_
                rintro e w' ⟨rfl, rfl⟩
                go_wp2_with fail
                go_roundw
                case rel => refine ⟨k + 1, by omega, by go_num, ?_⟩; simp
                case measure => simp [intOf]; omega
            · cases hX : Xb k <;> rw [hX] at hcb
              · go_wp2_with fail
                refine (checkWith_no _ _ _).mono ?_
                rintro e w' ⟨rfl, rfl⟩
                go_wp2_with fail
                refine (failed_yes _ badReq _ (by simp [go_sem])).mono ?_
                rintro e w' ⟨rfl, rfl⟩
                go_wp2_with fail
                refine (isBad_yes _ _ (by simp [go_sem])).mono ?_
                rintro e w' ⟨rfl, rfl⟩
                go_wp2_with fail
                go_roundw
                case rel => refine ⟨k + 1, by omega, by go_num, ?_⟩; simp
                case measure => simp [intOf]; omega
              · go_wp2_with fail
                refine (checkWith_yes _ _ _ _ (by simp [go_sem]; rfl) (by simp [go_sem])).mono ?_
                rintro e w' ⟨rfl, rfl⟩
                go_wp2_with fail
                refine (failed_yes _ badReq _ (by simp [go_sem])).mono ?_
                rintro e w' ⟨rfl, rfl⟩
                go_wp2_with fail
                refine (isBad_yes _ _ (by simp [go_sem])).mono ?_
                rintro e w' ⟨rfl, rfl⟩
                go_wp2_with fail
                go_roundw
                case rel => refine ⟨k + 1, by omega, by go_num, ?_⟩; simp
                case measure => simp [intOf]; omega
          · go_wp2_with fail
            go_ret
            exact ⟨rfl, (bel.out.alloc bel.out.size _).alloc (by have := bel.out.size; simp; omega) _⟩

end Go.Proofs.Qxb6603585a

