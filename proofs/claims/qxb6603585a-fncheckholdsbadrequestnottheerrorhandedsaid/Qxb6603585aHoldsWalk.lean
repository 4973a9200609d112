/-
  THE LAW 'FnCheckHoldsBadRequestNotTheErrorHanded': its walks, one theorem a way.
-/
import Derived.Test.Qxb6603585aReq
namespace Go.Proofs.Qxb6603585a
open Go.RowKit
set_option linter.unusedVariables false

theorem badReq_toList : badReq.toList = [98, 97, 100, 45, 114, 101, 113, 117, 101, 115, 116] := by rw [ByteArray.toList_eq]

set_option maxHeartbeats 400000 in
theorem holds_same_ff (a0 : Int) (a1 a4 : ByteArray) (w : World) (s1 : ¬ (1048576 : Int) < a1.size) (s2 : ¬ (1048576 : Int) < a4.size) (s3 : ¬ (1048576 : Int) < a1.size + a4.size) (s4 : (a1.size : Int) + a4.size ≤ 1048576) (hc : a4.toList = [98, 97, 100, 45, 114, 101, 113, 117, 101, 115, 116]) :
    Calls Try.prog 4 #[.int .u64 a0, .string a1, .bool false, .bool false, .string a4] w fun e w' => e = .returned (.bool true) ∧ Grown w w' := by
  go_enter Try.func4, Try.ntmps4
  go_wp2_with fail
  refine (bytes14 _ _ _ _ _ _ s4).mono ?_
  rintro e w' ⟨rfl, rfl⟩
  go_wp2_with fail
  refine (newReq_ok _ _ _).mono ?_
  rintro e w' ⟨rfl, rfl⟩
  go_wp2_with fail
  refine (checkWith_no _ _ _).mono ?_
  rintro e w' ⟨rfl, rfl⟩
  go_wp2_with fail
  refine (isBad_no _ _ (by simp [go_sem])).mono ?_
  rintro e w' ⟨rfl, rfl⟩
  go_wp2_with fail
  refine (failed_no _ _ (by simp [go_sem])).mono ?_
  rintro e w' ⟨rfl, rfl⟩
  go_wp2_with fail
  refine (checkWith_no _ _ _).mono ?_
  rintro e w' ⟨rfl, rfl⟩
  go_wp2_with fail
  refine (isBad_no _ _ (by simp [go_sem])).mono ?_
  rintro e w' ⟨rfl, rfl⟩
  go_wp2_with fail
  refine (failed_no _ _ (by simp [go_sem])).mono ?_
  rintro e w' ⟨rfl, rfl⟩
  go_wp2_with fail
  go_ret
  exact ⟨rfl, by repeat (first | exact Grown.refl _ | apply Grown.drew | apply Grown.allocMap | apply Grown.alloc)⟩

set_option maxHeartbeats 400000 in
theorem holds_same_ft (a0 : Int) (a1 a4 : ByteArray) (w : World) (s1 : ¬ (1048576 : Int) < a1.size) (s2 : ¬ (1048576 : Int) < a4.size) (s3 : ¬ (1048576 : Int) < a1.size + a4.size) (s4 : (a1.size : Int) + a4.size ≤ 1048576) (hc : a4.toList = [98, 97, 100, 45, 114, 101, 113, 117, 101, 115, 116]) :
    Calls Try.prog 4 #[.int .u64 a0, .string a1, .bool false, .bool true, .string a4] w fun e w' => e = .returned (.bool true) ∧ Grown w w' := by
  go_enter Try.func4, Try.ntmps4
  go_wp2_with fail
  refine (bytes14 _ _ _ _ _ _ s4).mono ?_
  rintro e w' ⟨rfl, rfl⟩
  go_wp2_with fail
  refine (newReq_ok _ _ _).mono ?_
  rintro e w' ⟨rfl, rfl⟩
  go_wp2_with fail
  refine (checkWith_yes _ _ _ _ (by simp [go_sem]; rfl) (by simp [go_sem])).mono ?_
  rintro e w' ⟨rfl, rfl⟩
  go_wp2_with fail
  refine (isBad_yes _ _ (by simp [go_sem])).mono ?_
  rintro e w' ⟨rfl, rfl⟩
  go_wp2_with fail
  refine (failed_yes _ badReq _ (by simp [go_sem])).mono ?_
  rintro e w' ⟨rfl, rfl⟩
  go_wp2_with fail
  refine (checkWith_yes _ _ _ _ (by simp [go_sem]; rfl) (by simp [go_sem])).mono ?_
  rintro e w' ⟨rfl, rfl⟩
  go_wp2_with fail
  refine (isBad_yes _ _ (by simp [go_sem])).mono ?_
  rintro e w' ⟨rfl, rfl⟩
  go_wp2_with fail
  refine (failed_yes _ badReq _ (by simp [go_sem])).mono ?_
  rintro e w' ⟨rfl, rfl⟩
  go_wp2_with fail
  go_ret
  exact ⟨rfl, by repeat (first | exact Grown.refl _ | apply Grown.drew | apply Grown.allocMap | apply Grown.alloc)⟩

set_option maxHeartbeats 400000 in
theorem holds_same_tf (a0 : Int) (a1 a4 : ByteArray) (w : World) (s1 : ¬ (1048576 : Int) < a1.size) (s2 : ¬ (1048576 : Int) < a4.size) (s3 : ¬ (1048576 : Int) < a1.size + a4.size) (s4 : (a1.size : Int) + a4.size ≤ 1048576) (hc : a4.toList = [98, 97, 100, 45, 114, 101, 113, 117, 101, 115, 116]) :
    Calls Try.prog 4 #[.int .u64 a0, .string a1, .bool true, .bool false, .string a4] w fun e w' => e = .returned (.bool true) ∧ Grown w w' := by
  go_enter Try.func4, Try.ntmps4
  go_wp2_with fail
  refine (bytes14 _ _ _ _ _ _ s4).mono ?_
  rintro e w' ⟨rfl, rfl⟩
  go_wp2_with fail
  refine (newReq_bad _ _ _).mono ?_
  rintro e w' ⟨rfl, rfl⟩
  go_wp2_with fail
  refine (checkWith_no _ _ _).mono ?_
  rintro e w' ⟨rfl, rfl⟩
  go_wp2_with fail
  refine (isBad_yes _ _ (by simp [go_sem])).mono ?_
  rintro e w' ⟨rfl, rfl⟩
  go_wp2_with fail
  refine (failed_yes _ badReq _ (by simp [go_sem])).mono ?_
  rintro e w' ⟨rfl, rfl⟩
  go_wp2_with fail
  refine (checkWith_no _ _ _).mono ?_
  rintro e w' ⟨rfl, rfl⟩
  go_wp2_with fail
  refine (isBad_yes _ _ (by simp [go_sem])).mono ?_
  rintro e w' ⟨rfl, rfl⟩
  go_wp2_with fail
  refine (failed_yes _ badReq _ (by simp [go_sem])).mono ?_
  rintro e w' ⟨rfl, rfl⟩
  go_wp2_with fail
  go_ret
  exact ⟨rfl, by repeat (first | exact Grown.refl _ | apply Grown.drew | apply Grown.allocMap | apply Grown.alloc)⟩

set_option maxHeartbeats 400000 in
theorem holds_same_tt (a0 : Int) (a1 a4 : ByteArray) (w : World) (s1 : ¬ (1048576 : Int) < a1.size) (s2 : ¬ (1048576 : Int) < a4.size) (s3 : ¬ (1048576 : Int) < a1.size + a4.size) (s4 : (a1.size : Int) + a4.size ≤ 1048576) (hc : a4.toList = [98, 97, 100, 45, 114, 101, 113, 117, 101, 115, 116]) :
    Calls Try.prog 4 #[.int .u64 a0, .string a1, .bool true, .bool true, .string a4] w fun e w' => e = .returned (.bool true) ∧ Grown w w' := by
  go_enter Try.func4, Try.ntmps4
  go_wp2_with fail
  refine (bytes14 _ _ _ _ _ _ s4).mono ?_
  rintro e w' ⟨rfl, rfl⟩
  go_wp2_with fail
  refine (newReq_bad _ _ _).mono ?_
  rintro e w' ⟨rfl, rfl⟩
  go_wp2_with fail
  refine (checkWith_yes _ _ _ _ (by simp [go_sem]; rfl) (by simp [go_sem])).mono ?_
  rintro e w' ⟨rfl, rfl⟩
  go_wp2_with fail
  refine (isBad_yes _ _ (by simp [go_sem])).mono ?_
  rintro e w' ⟨rfl, rfl⟩
  go_wp2_with fail
  refine (failed_yes _ badReq _ (by simp [go_sem])).mono ?_
  rintro e w' ⟨rfl, rfl⟩
  go_wp2_with fail
  refine (checkWith_yes _ _ _ _ (by simp [go_sem]; rfl) (by simp [go_sem])).mono ?_
  rintro e w' ⟨rfl, rfl⟩
  go_wp2_with fail
  refine (isBad_yes _ _ (by simp [go_sem])).mono ?_
  rintro e w' ⟨rfl, rfl⟩
  go_wp2_with fail
  refine (failed_yes _ badReq _ (by simp [go_sem])).mono ?_
  rintro e w' ⟨rfl, rfl⟩
  go_wp2_with fail
  go_ret
  exact ⟨rfl, by repeat (first | exact Grown.refl _ | apply Grown.drew | apply Grown.allocMap | apply Grown.alloc)⟩

set_option maxHeartbeats 400000 in
theorem holds_other_ff (a0 : Int) (a1 a4 : ByteArray) (w : World) (s1 : ¬ (1048576 : Int) < a1.size) (s2 : ¬ (1048576 : Int) < a4.size) (s3 : ¬ (1048576 : Int) < a1.size + a4.size) (s4 : (a1.size : Int) + a4.size ≤ 1048576) (hc : ¬ a4.toList = [98, 97, 100, 45, 114, 101, 113, 117, 101, 115, 116]) :
    Calls Try.prog 4 #[.int .u64 a0, .string a1, .bool false, .bool false, .string a4] w fun e w' => e = .returned (.bool true) ∧ Grown w w' := by
  have hc' : (badReq == a4) = false := by
    rw [beq_toListBytes, beq_eq_false_iff_ne]
    exact fun h => hc (h.symm.trans badReq_toList)
  go_enter Try.func4, Try.ntmps4
  go_wp2_with fail
  refine (bytes14 _ _ _ _ _ _ s4).mono ?_
  rintro e w' ⟨rfl, rfl⟩
  go_wp2_with fail
  refine (newReq_ok _ _ _).mono ?_
  rintro e w' ⟨rfl, rfl⟩
  go_wp2_with fail
  refine (checkWith_no _ _ _).mono ?_
  rintro e w' ⟨rfl, rfl⟩
  go_wp2_with fail
  refine (isBad_no _ _ (by simp [go_sem])).mono ?_
  rintro e w' ⟨rfl, rfl⟩
  go_wp2_with fail
  refine (failed_no _ _ (by simp [go_sem])).mono ?_
  rintro e w' ⟨rfl, rfl⟩
  go_wp2_with fail
  refine (errIs_no _ _ _ (by simp [go_sem])).mono ?_
  rintro e w' ⟨rfl, rfl⟩
  go_wp2_with fail
  refine (checkWith_no _ _ _).mono ?_
  rintro e w' ⟨rfl, rfl⟩
  go_wp2_with fail
  refine (isBad_no _ _ (by simp [go_sem])).mono ?_
  rintro e w' ⟨rfl, rfl⟩
  go_wp2_with fail
  refine (failed_no _ _ (by simp [go_sem])).mono ?_
  rintro e w' ⟨rfl, rfl⟩
  go_wp2_with fail
  go_ret
  exact ⟨rfl, by repeat (first | exact Grown.refl _ | apply Grown.drew | apply Grown.allocMap | apply Grown.alloc)⟩

set_option maxHeartbeats 400000 in
theorem holds_other_ft (a0 : Int) (a1 a4 : ByteArray) (w : World) (s1 : ¬ (1048576 : Int) < a1.size) (s2 : ¬ (1048576 : Int) < a4.size) (s3 : ¬ (1048576 : Int) < a1.size + a4.size) (s4 : (a1.size : Int) + a4.size ≤ 1048576) (hc : ¬ a4.toList = [98, 97, 100, 45, 114, 101, 113, 117, 101, 115, 116]) :
    Calls Try.prog 4 #[.int .u64 a0, .string a1, .bool false, .bool true, .string a4] w fun e w' => e = .returned (.bool true) ∧ Grown w w' := by
  have hc' : (badReq == a4) = false := by
    rw [beq_toListBytes, beq_eq_false_iff_ne]
    exact fun h => hc (h.symm.trans badReq_toList)
  go_enter Try.func4, Try.ntmps4
  go_wp2_with fail
  refine (bytes14 _ _ _ _ _ _ s4).mono ?_
  rintro e w' ⟨rfl, rfl⟩
  go_wp2_with fail
  refine (newReq_ok _ _ _).mono ?_
  rintro e w' ⟨rfl, rfl⟩
  go_wp2_with fail
  refine (checkWith_yes _ _ _ _ (by simp [go_sem]; rfl) (by simp [go_sem])).mono ?_
  rintro e w' ⟨rfl, rfl⟩
  go_wp2_with fail
  refine (isBad_yes _ _ (by simp [go_sem])).mono ?_
  rintro e w' ⟨rfl, rfl⟩
  go_wp2_with fail
  refine (failed_yes _ badReq _ (by simp [go_sem])).mono ?_
  rintro e w' ⟨rfl, rfl⟩
  go_wp2_with fail
  refine (errIs_other _ badReq _ hc' _ (by simp [go_sem])).mono ?_
  rintro e w' ⟨rfl, rfl⟩
  go_wp2_with fail
  refine (checkWith_yes _ _ _ _ (by simp [go_sem]; rfl) (by simp [go_sem])).mono ?_
  rintro e w' ⟨rfl, rfl⟩
  go_wp2_with fail
  refine (isBad_yes _ _ (by simp [go_sem])).mono ?_
  rintro e w' ⟨rfl, rfl⟩
  go_wp2_with fail
  refine (failed_yes _ badReq _ (by simp [go_sem])).mono ?_
  rintro e w' ⟨rfl, rfl⟩
  go_wp2_with fail
  go_ret
  exact ⟨rfl, by repeat (first | exact Grown.refl _ | apply Grown.drew | apply Grown.allocMap | apply Grown.alloc)⟩

set_option maxHeartbeats 400000 in
theorem holds_other_tf (a0 : Int) (a1 a4 : ByteArray) (w : World) (s1 : ¬ (1048576 : Int) < a1.size) (s2 : ¬ (1048576 : Int) < a4.size) (s3 : ¬ (1048576 : Int) < a1.size + a4.size) (s4 : (a1.size : Int) + a4.size ≤ 1048576) (hc : ¬ a4.toList = [98, 97, 100, 45, 114, 101, 113, 117, 101, 115, 116]) :
    Calls Try.prog 4 #[.int .u64 a0, .string a1, .bool true, .bool false, .string a4] w fun e w' => e = .returned (.bool true) ∧ Grown w w' := by
  have hc' : (badReq == a4) = false := by
    rw [beq_toListBytes, beq_eq_false_iff_ne]
    exact fun h => hc (h.symm.trans badReq_toList)
  go_enter Try.func4, Try.ntmps4
  go_wp2_with fail
  refine (bytes14 _ _ _ _ _ _ s4).mono ?_
  rintro e w' ⟨rfl, rfl⟩
  go_wp2_with fail
  refine (newReq_bad _ _ _).mono ?_
  rintro e w' ⟨rfl, rfl⟩
  go_wp2_with fail
  refine (checkWith_no _ _ _).mono ?_
  rintro e w' ⟨rfl, rfl⟩
  go_wp2_with fail
  refine (isBad_yes _ _ (by simp [go_sem])).mono ?_
  rintro e w' ⟨rfl, rfl⟩
  go_wp2_with fail
  refine (failed_yes _ badReq _ (by simp [go_sem])).mono ?_
  rintro e w' ⟨rfl, rfl⟩
  go_wp2_with fail
  refine (errIs_other _ badReq _ hc' _ (by simp [go_sem])).mono ?_
  rintro e w' ⟨rfl, rfl⟩
  go_wp2_with fail
  refine (checkWith_no _ _ _).mono ?_
  rintro e w' ⟨rfl, rfl⟩
  go_wp2_with fail
  refine (isBad_yes _ _ (by simp [go_sem])).mono ?_
  rintro e w' ⟨rfl, rfl⟩
  go_wp2_with fail
  refine (failed_yes _ badReq _ (by simp [go_sem])).mono ?_
  rintro e w' ⟨rfl, rfl⟩
  go_wp2_with fail
  go_ret
  exact ⟨rfl, by repeat (first | exact Grown.refl _ | apply Grown.drew | apply Grown.allocMap | apply Grown.alloc)⟩

set_option maxHeartbeats 400000 in
theorem holds_other_tt (a0 : Int) (a1 a4 : ByteArray) (w : World) (s1 : ¬ (1048576 : Int) < a1.size) (s2 : ¬ (1048576 : Int) < a4.size) (s3 : ¬ (1048576 : Int) < a1.size + a4.size) (s4 : (a1.size : Int) + a4.size ≤ 1048576) (hc : ¬ a4.toList = [98, 97, 100, 45, 114, 101, 113, 117, 101, 115, 116]) :
    Calls Try.prog 4 #[.int .u64 a0, .string a1, .bool true, .bool true, .string a4] w fun e w' => e = .returned (.bool true) ∧ Grown w w' := by
  have hc' : (badReq == a4) = false := by
    rw [beq_toListBytes, beq_eq_false_iff_ne]
    exact fun h => hc (h.symm.trans badReq_toList)
  go_enter Try.func4, Try.ntmps4
  go_wp2_with fail
  refine (bytes14 _ _ _ _ _ _ s4).mono ?_
  rintro e w' ⟨rfl, rfl⟩
  go_wp2_with fail
  refine (newReq_bad _ _ _).mono ?_
  rintro e w' ⟨rfl, rfl⟩
  go_wp2_with fail
  refine (checkWith_yes _ _ _ _ (by simp [go_sem]; rfl) (by simp [go_sem])).mono ?_
  rintro e w' ⟨rfl, rfl⟩
  go_wp2_with fail
  refine (isBad_yes _ _ (by simp [go_sem])).mono ?_
  rintro e w' ⟨rfl, rfl⟩
  go_wp2_with fail
  refine (failed_yes _ badReq _ (by simp [go_sem])).mono ?_
  rintro e w' ⟨rfl, rfl⟩
  go_wp2_with fail
  refine (errIs_other _ badReq _ hc' _ (by simp [go_sem])).mono ?_
  rintro e w' ⟨rfl, rfl⟩
  go_wp2_with fail
  refine (checkWith_yes _ _ _ _ (by simp [go_sem]; rfl) (by simp [go_sem])).mono ?_
  rintro e w' ⟨rfl, rfl⟩
  go_wp2_with fail
  refine (isBad_yes _ _ (by simp [go_sem])).mono ?_
  rintro e w' ⟨rfl, rfl⟩
  go_wp2_with fail
  refine (failed_yes _ badReq _ (by simp [go_sem])).mono ?_
  rintro e w' ⟨rfl, rfl⟩
  go_wp2_with fail
  go_ret
  exact ⟨rfl, by repeat (first | exact Grown.refl _ | apply Grown.drew | apply Grown.allocMap | apply Grown.alloc)⟩

end Go.Proofs.Qxb6603585a
