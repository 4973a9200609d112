/-
  paise.plus, course.sum, zzAddOverflowsB1, ZZCourseSum.
-/
import Derived.Test.Qxb6603765aCourse
namespace Go.Proofs.Qxb6603765a
open Go.RowKit

/-- Does p + q leave int64? -/
def ovf (p q : Int) : Bool := decide (p + q < -9223372036854775808) || decide (9223372036854775807 < p + q)
/-- An int64. -/
def I64 (p : Int) : Prop := -9223372036854775808 ≤ p ∧ p ≤ 9223372036854775807

theorem ovf_pos (p q : Int) (hp : I64 p) (hq : I64 q) (c1 : 0 < q) : ovf p q = decide (wrap64 (p + q) < p) := by
  unfold I64 at hp hq
  unfold ovf wrap64
  rw [Bool.eq_iff_iff]
  simp
  omega
theorem ovf_neg (p q : Int) (hp : I64 p) (hq : I64 q) (c1 : q < 0) : ovf p q = decide (p < wrap64 (p + q)) := by
  unfold I64 at hp hq
  unfold ovf wrap64
  rw [Bool.eq_iff_iff]
  simp
  omega
theorem ovf_zero (p : Int) (hp : I64 p) : ovf p 0 = false := by
  unfold I64 at hp
  unfold ovf
  simp
  omega

/-- paise.plus. -/
theorem plus (p q : Int) (hp : I64 p) (hq : I64 q) (w : World) :
    Calls Try.prog 12 #[.int .i64 p, .int .i64 q] w fun e w' => e = .returned (.tuple #[.int .i64 (wrap64 (p + q)), .bool (!ovf p q)]) ∧ w' = w := by
  by_cases c1 : 0 < q
  · rw [ovf_pos p q hp hq c1]
    by_cases c2 : wrap64 (p + q) < p
    · rw [decide_eq_true c2]
      go_enter Try.func12, Try.ntmps12
      go_wp2
      go_ret2
      exact ⟨rfl, rfl⟩
    · rw [decide_eq_false c2]
      go_enter Try.func12, Try.ntmps12
      go_wp2
      go_ret2
      exact ⟨rfl, rfl⟩
  by_cases c3 : q < 0
  · rw [ovf_neg p q hp hq c3]
    by_cases c4 : p < wrap64 (p + q)
    · rw [decide_eq_true c4]
      go_enter Try.func12, Try.ntmps12
      go_wp2
      go_ret2
      exact ⟨rfl, rfl⟩
    · rw [decide_eq_false c4]
      go_enter Try.func12, Try.ntmps12
      go_wp2
      go_ret2
      exact ⟨rfl, rfl⟩
  · obtain rfl : q = 0 := by omega
    rw [ovf_zero p hp]
    go_enter Try.func12, Try.ntmps12
    go_wp2
    go_ret2
    exact ⟨by simp, rfl⟩

/-- course.sum: no overflow. -/
theorem sum_no (g : Nat) (p q : Int) (hp : I64 p) (hq : I64 q) (ho : ovf p q = false) (w : World) :
    Calls Try.prog 9 #[.pointer (some ⟨g, 0, none⟩), .int .i64 p, .int .i64 q] w fun e w' => e = .returned (.int .i64 (wrap64 (p + q))) ∧ w' = w := by
  go_enter Try.func9, Try.ntmps9
  go_wp2_with fail
  refine (plus p q hp hq w).mono ?_
  rw [ho]
  rintro e w' ⟨rfl, rfl⟩
  go_wp2
  go_ret
  exact ⟨rfl, rfl⟩
/-- course.sum: an overflow. -/
theorem sum_yes (g : Nat) (p q : Int) (hp : I64 p) (hq : I64 q) (ho : ovf p q = true) (v : Value) (w : World) (hc : w.cell? ⟨g, 6, none⟩ = some v) (hf : w.frozen? ⟨g, 6, none⟩ = false) :
    Calls Try.prog 9 #[.pointer (some ⟨g, 0, none⟩), .int .i64 p, .int .i64 q] w fun e w' => e = .returned (.int .i64 (wrap64 (p + q))) ∧ w' = w.setCell ⟨g, 6, none⟩ (.bool true) := by
  go_enter Try.func9, Try.ntmps9
  go_wp2_with fail
  refine (plus p q hp hq w).mono ?_
  rw [ho]
  rintro e w' ⟨rfl, rfl⟩
  go_wp2
  go_ret
  exact ⟨rfl, rfl⟩

/-- zzAddOverflowsB1. -/
theorem addOvf (p q : Int) (hp : I64 p) (hq : I64 q) (w : World) :
    Calls Try.prog 6 #[.int .i64 p, .int .i64 q] w fun e w' => e = .returned (.bool (ovf p q)) ∧ w' = w := by
  obtain ⟨p0, p1⟩ := id hp
  obtain ⟨q0, q1⟩ := id hq
  by_cases c1 : 0 < q
  · have e : ovf p q = decide (9223372036854775807 - q < p) := by
      unfold ovf
      rw [Bool.eq_iff_iff]
      simp
      omega
    rw [e]
    go_enter Try.func6, Try.ntmps6
    go_wp2
    go_ret
    exact ⟨rfl, rfl⟩
  by_cases c3 : q < 0
  · have e : ovf p q = decide (p < -9223372036854775808 - q) := by
      unfold ovf
      rw [Bool.eq_iff_iff]
      simp
      omega
    rw [e]
    go_enter Try.func6, Try.ntmps6
    go_wp2
    go_ret
    exact ⟨rfl, rfl⟩
  · obtain rfl : q = 0 := by omega
    rw [ovf_zero p hp]
    go_enter Try.func6, Try.ntmps6
    go_wp2
    go_ret
    exact ⟨rfl, rfl⟩
end Go.Proofs.Qxb6603765a
