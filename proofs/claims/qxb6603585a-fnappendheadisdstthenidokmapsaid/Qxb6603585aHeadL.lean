/-
  WHAT STANDS AT EACH PLACE OF THE HEAD: no Go in sight.
-/
import Derived.Test.Qxb6603585aHead
namespace Go.Proofs.Qxb6603585a

theorem head_at (id : Int) (ok : Bool) (j : Nat) : (headL id ok).getD (4 + j) 0 = (uintL id ++ [162, 111, 107, if ok then 195 else 194]).getD j 0 := by
  rw [Nat.add_comm]
  simp [headL]
theorem head_uint (id : Int) (ok : Bool) (j : Nat) (h : j < (uintL id).length) : (headL id ok).getD (4 + j) 0 = (uintL id).getD j 0 := by
  rw [head_at, List.getD_eq_getElem?_getD, List.getElem?_append_left h, List.getD_eq_getElem?_getD]
theorem head_end (id : Int) (ok : Bool) (j : Nat) : (headL id ok).getD (4 + ((uintL id).length + j)) 0 = [162, 111, 107, if ok then (195 : Int) else 194].getD j 0 := by
  rw [head_at, List.getD_eq_getElem?_getD, List.getElem?_append_right (by omega), Nat.add_sub_cancel_left, List.getD_eq_getElem?_getD]
theorem head_e4 (id : Int) (ok : Bool) : (headL id ok).getD (4 + (uintL id).length) 0 = 162 := by
  have := head_end id ok 0
  exact this
theorem head_e5 (id : Int) (ok : Bool) : (headL id ok).getD (5 + (uintL id).length) 0 = 111 := by
  have := head_end id ok 1
  rw [show 5 + (uintL id).length = 4 + ((uintL id).length + 1) by omega, this]
  rfl
theorem head_e6 (id : Int) (ok : Bool) : (headL id ok).getD (6 + (uintL id).length) 0 = 107 := by
  have := head_end id ok 2
  rw [show 6 + (uintL id).length = 4 + ((uintL id).length + 2) by omega, this]
  rfl
theorem head_e7 (id : Int) (ok : Bool) : (headL id ok).getD (7 + (uintL id).length) 0 = if ok then 195 else 194 := by
  have := head_end id ok 3
  rw [show 7 + (uintL id).length = 4 + ((uintL id).length + 3) by omega, this]
  rfl
end Go.Proofs.Qxb6603585a
