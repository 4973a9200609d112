/-
  course.pay: one theorem for each way the interest goes and each way the two sums end.
-/
import Derived.Test.Qxb6603765aSum0
import Derived.BigRegion
import Derived.Deep.RegionWith
namespace Go.Proofs.Qxb6603765a
open Go.RowKit

set_option maxHeartbeats 2000000 in
theorem pay_3tf (a b c d e f : Int) (o : Bool) (i p : Int) (hi : 0 ≤ i) (hi1 : i ≤ 9223372036854775807) (hc : 0 ≤ c) (hd : 0 ≤ d) (hc1 : c ≤ 9223372036854775807) (hd1 : d ≤ 9223372036854775807) (he : I64 e) (hf : I64 f) (h : c < i) (h' : d < i - c) (ho1 : ovf e (i - c - d) = true) (ho2 : ovf f i = false) (w : World) :
    Calls Try.prog 11 #[.pointer (some ⟨w.heap.size, 0, none⟩), .agg #[.int .i64 i, .int .i64 p]] (w.alloc (.cells (crs a b c d e f o) 39)) fun e' w' => e' = .returned (.tuple #[]) ∧
      ∃ c1, w' = ((w.alloc (.cells (crs a (wrap64 (b - p)) (0) (0) (wrap64 (e + (i - c - d))) (wrap64 (f + i)) true) 39)).alloc (.cells c1 37)).drew.drew.drew.drew.drew.drew := by
  have hii : I64 i := ⟨by omega, hi1⟩
  have hx : I64 (i - c - d) := ⟨by omega, by omega⟩
  have hw1 : IntKind.i64.wrap (i - c) = i - c := by rw [IntKind.wrap_i64]; omega
  have hw2 : IntKind.i64.wrap (i - c - d) = i - c - d := by rw [IntKind.wrap_i64]; omega
  go_enter Try.func11, Try.ntmps11
  go_wp2_with fail
  go_region
  go_wp2_with fail
  go_region
  go_wp2_with fail
  go_region
  go_wp2_with fail
  go_region_with (go_at_call 9; refine (sum_yes _ e (i - c - d) he hx ho1 (.bool o) _ (by simp [go_sem]) (by simp [go_sem])).mono ?_; rintro e1 w1 ⟨rfl, rfl⟩)
  all_goals
    go_wp2_with fail
    go_region_with (go_at_call 9; refine (sum_no _ f i hf hii ho2 _).mono ?_; rintro e1 w1 ⟨rfl, rfl⟩)
    all_goals
      go_wp2_with fail
      go_region
      go_wp2_with fail
      go_end0
      exact ⟨rfl, _, rfl⟩

set_option maxHeartbeats 2000000 in
theorem pay_3tt (a b c d e f : Int) (o : Bool) (i p : Int) (hi : 0 ≤ i) (hi1 : i ≤ 9223372036854775807) (hc : 0 ≤ c) (hd : 0 ≤ d) (hc1 : c ≤ 9223372036854775807) (hd1 : d ≤ 9223372036854775807) (he : I64 e) (hf : I64 f) (h : c < i) (h' : d < i - c) (ho1 : ovf e (i - c - d) = true) (ho2 : ovf f i = true) (w : World) :
    Calls Try.prog 11 #[.pointer (some ⟨w.heap.size, 0, none⟩), .agg #[.int .i64 i, .int .i64 p]] (w.alloc (.cells (crs a b c d e f o) 39)) fun e' w' => e' = .returned (.tuple #[]) ∧
      ∃ c1, w' = ((w.alloc (.cells (crs a (wrap64 (b - p)) (0) (0) (wrap64 (e + (i - c - d))) (wrap64 (f + i)) true) 39)).alloc (.cells c1 37)).drew.drew.drew.drew.drew.drew := by
  have hii : I64 i := ⟨by omega, hi1⟩
  have hx : I64 (i - c - d) := ⟨by omega, by omega⟩
  have hw1 : IntKind.i64.wrap (i - c) = i - c := by rw [IntKind.wrap_i64]; omega
  have hw2 : IntKind.i64.wrap (i - c - d) = i - c - d := by rw [IntKind.wrap_i64]; omega
  go_enter Try.func11, Try.ntmps11
  go_wp2_with fail
  go_region
  go_wp2_with fail
  go_region
  go_wp2_with fail
  go_region
  go_wp2_with fail
  go_region_with (go_at_call 9; refine (sum_yes _ e (i - c - d) he hx ho1 (.bool o) _ (by simp [go_sem]) (by simp [go_sem])).mono ?_; rintro e1 w1 ⟨rfl, rfl⟩)
  all_goals
    go_wp2_with fail
    go_region_with (go_at_call 9; refine (sum_yes _ f i hf hii ho2 (.bool true) _ (by simp [go_sem]) (by simp [go_sem])).mono ?_; rintro e1 w1 ⟨rfl, rfl⟩)
    all_goals
      go_wp2_with fail
      go_region
      go_wp2_with fail
      go_end0
      exact ⟨rfl, _, rfl⟩

end Go.Proofs.Qxb6603765a
