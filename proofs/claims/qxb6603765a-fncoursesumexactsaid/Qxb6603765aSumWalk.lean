/-
  ZZCourseSum and the law 'FnCourseSumExact'.
-/
import Derived.Test.Qxb6603765aSum
namespace Go.Proofs.Qxb6603765a
open Go.RowKit

/-- The world behind ZZCourseSum: five new blocks and a draw. -/
def Five (w w' : World) : Prop := ∃ c1 c2 c3 c4 c5 : Array Value, w' = (((((w.alloc (.cells c1 23)).alloc (.cells c2 23)).alloc (.cells c3 23)).alloc (.cells c4 39)).alloc (.cells c5 23)).drew

set_option maxHeartbeats 800000 in
theorem courseSum (a b c d e f : Int) (o : Bool) (p q : Int) (hp : I64 p) (hq : I64 q) (w : World) :
    Calls Try.prog 5 #[.agg (crs a b c d e f o), .int .i64 p, .int .i64 q] w fun e' w' => e' = .returned (.tuple #[.agg (crs a b c d e f (o || ovf p q)), .int .i64 (wrap64 (p + q))]) ∧ Five w w' := by
  cases ho : ovf p q
  · go_enter Try.func5, Try.ntmps5
    go_wp2_with fail
    refine (toCourse a b c d e f o _).mono ?_
    rintro e1 w1 ⟨rfl, rfl⟩
    go_wp2_with fail
    refine (sum_no _ p q hp hq ho _).mono ?_
    rintro e1 w1 ⟨rfl, rfl⟩
    go_wp2_with fail
    refine (fromCourse _ a b c d e f o _ (by simp [go_sem]) (by simp [go_sem]) (by simp [go_sem]) (by simp [go_sem]) (by simp [go_sem]) (by simp [go_sem]) (by simp [go_sem]) (by simp)).mono ?_
    rintro e1 w1 ⟨rfl, rfl⟩
    go_wp2_with fail
    exact bodyPost_ret (v := .tuple #[.agg (crs a b c d e f (o || false)), .int .i64 (wrap64 (p + q))]) (by simp [results, Try.results5, go_sem]) rfl ⟨rfl, _, _, _, _, _, rfl⟩
  · go_enter Try.func5, Try.ntmps5
    go_wp2_with fail
    refine (toCourse a b c d e f o _).mono ?_
    rintro e1 w1 ⟨rfl, rfl⟩
    go_wp2_with fail
    refine (sum_yes _ p q hp hq ho (.bool o) _ (by simp [go_sem]) (by simp [go_sem])).mono ?_
    rintro e1 w1 ⟨rfl, rfl⟩
    go_wp2_with fail
    refine (fromCourse _ a b c d e f true _ (by simp [go_sem]) (by simp [go_sem]) (by simp [go_sem]) (by simp [go_sem]) (by simp [go_sem]) (by simp [go_sem]) (by simp [go_sem]) (by simp)).mono ?_
    rintro e1 w1 ⟨rfl, rfl⟩
    go_wp2_with fail
    exact bodyPost_ret (v := .tuple #[.agg (crs a b c d e f (o || true)), .int .i64 (wrap64 (p + q))]) (by simp [results, Try.results5, go_sem]) rfl ⟨rfl, _, _, _, _, _, rfl⟩

theorem u64_sum (p q : Int) : IntKind.u64.wrap (wrap64 (p + q)) = IntKind.u64.wrap (IntKind.u64.wrap p + IntKind.u64.wrap q) := by
  have e : ∀ n : Int, IntKind.u64.wrap n = n % 18446744073709551616 := fun n => by simp [IntKind.wrap, IntKind.bits, IntKind.signed]
  rw [e, e, e, e]
  unfold wrap64
  omega

set_option maxHeartbeats 800000 in
theorem sum_law (a b c d e f : Int) (o : Bool) (p q : Int) (hp : I64 p) (hq : I64 q) (w : World) :
    Calls Try.prog 3 #[.int .i64 a, .int .i64 b, .int .i64 c, .int .i64 d, .int .i64 e, .int .i64 f, .bool o, .int .i64 p, .int .i64 q] w fun e' w' => e' = .returned (.bool true) ∧ Grown w w' := by
  have t1 : (IntKind.u64.wrap (wrap64 (p + q)) != IntKind.u64.wrap (IntKind.u64.wrap p + IntKind.u64.wrap q)) = false := by rw [u64_sum]; simp
  cases o
  · go_enter Try.func3, Try.ntmps3
    go_wp2_with fail
    refine (courseSum a b c d e f false p q hp hq _).mono ?_
    rintro e1 w1 ⟨rfl, c1, c2, c3, c4, c5, rfl⟩
    go_wp2_with fail
    refine (addOvf p q hp hq _).mono ?_
    rintro e1 w1 ⟨rfl, rfl⟩
    go_wp2_with fail
    go_ret
    exact ⟨rfl, by repeat (first | exact Grown.refl _ | apply Grown.drew | apply Grown.alloc)⟩
  · go_enter Try.func3, Try.ntmps3
    go_wp2_with fail
    refine (courseSum a b c d e f true p q hp hq _).mono ?_
    rintro e1 w1 ⟨rfl, c1, c2, c3, c4, c5, rfl⟩
    go_wp2_with fail
    go_ret
    exact ⟨rfl, by repeat (first | exact Grown.refl _ | apply Grown.drew | apply Grown.alloc)⟩
end Go.Proofs.Qxb6603765a
