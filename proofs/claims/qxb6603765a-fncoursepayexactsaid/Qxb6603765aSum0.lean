/-
  course.sum with nothing added.
-/
import Derived.Test.Qxb6603765aSum
namespace Go.Proofs.Qxb6603765a
open Go.RowKit

/-- course.sum with nothing added. -/
theorem sum_0 (g : Nat) (p : Int) (hp : I64 p) (w : World) :
    Calls Try.prog 9 #[.pointer (some ⟨g, 0, none⟩), .int .i64 p, .int .i64 0] w fun e w' => e = .returned (.int .i64 p) ∧ w' = w := by
  have h := sum_no g p 0 hp (by unfold I64; omega) (ovf_zero p hp) w
  have e : wrap64 (p + 0) = p := by
    unfold I64 at hp
    unfold wrap64
    omega
  rw [e] at h
  exact h
end Go.Proofs.Qxb6603765a
