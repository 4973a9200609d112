/-
  THE LAW 'FnCoursePayExact': its walks, one theorem a way.
-/
import Derived.Test.Qxb6603765aPayAll
namespace Go.Proofs.Qxb6603765a
open Go.RowKit
set_option linter.unusedVariables false

theorem u64_wrap (n : Int) : IntKind.u64.wrap n = n % 18446744073709551616 := by simp [IntKind.wrap, IntKind.bits, IntKind.signed]
theorem back_add1 (p q : Int) : wrap64 (IntKind.u64.wrap (IntKind.u64.wrap p + q)) = wrap64 (p + q) := by
  rw [u64_wrap, u64_wrap]
  unfold wrap64
  omega
theorem back_one (p : Int) (hp : I64 p) : wrap64 (IntKind.u64.wrap (IntKind.u64.wrap p)) = p := by
  rw [u64_wrap, u64_wrap]
  unfold I64 at hp
  unfold wrap64
  omega
theorem back_sub (p q : Int) : wrap64 (IntKind.u64.wrap (IntKind.u64.wrap p - IntKind.u64.wrap q)) = wrap64 (p - q) := by
  rw [u64_wrap, u64_wrap, u64_wrap]
  unfold wrap64
  omega

set_option maxHeartbeats 2000000 in
theorem payl_1t (a b c d e f : Int) (i p : Int) (hi : 0 ≤ i) (hi1 : i ≤ 9223372036854775807) (hc : 0 ≤ c) (hd : 0 ≤ d) (hc1 : c ≤ 9223372036854775807) (hd1 : d ≤ 9223372036854775807) (he : I64 e) (hf : I64 f) (h : i ≤ c) (w : World) :
    Calls Try.prog 4 #[.int .i64 a, .int .i64 b, .int .i64 c, .int .i64 d, .int .i64 e, .int .i64 f, .bool true, .int .i64 i, .int .i64 p] w fun e' w' => e' = .returned (.bool true) ∧ Grown w w' := by
  have hx : excess c d i = 0 := by unfold excess; rw [if_pos h]
  have hC : addedL c i = c - i := by unfold addedL; rw [if_pos h]
  have hD : accruedL c d i = d := by unfold accruedL; rw [if_pos h]
  have hii : I64 i := ⟨by omega, hi1⟩
  have hE : wrap64 (e + excess c d i) = e := by rw [hx]; exact wrap_add0 e he
  have hO : (true || ovf e (excess c d i) || ovf f i) = true := by rw [hx]; simp
  have HP := fun w => coursePay a b c d e f true i p hi hi1 hc hd hc1 hd1 he hf (wrap64 (b - p)) (c - i) (d) e (wrap64 (f + i)) true rfl hC hD hE rfl hO w
  have H : Hid (∀ w, Calls Try.prog 7 #[.agg (crs a b c d e f true), .int .i64 i, .int .i64 p] w fun e1 w' => e1 = .returned (.agg (crs a (wrap64 (b - p)) (c - i) (d) e (wrap64 (f + i)) true)) ∧ Six w w') := HP
  clear HP hx hC hD hE hO
  have t1 := back_one e he
  have t2 := back_add1 f i
  have t3 := back_sub b p
  go_enter Try.func4, Try.ntmps4
  go_wp2_with fail
  refine (H.out _).mono ?_
  rintro e1 w1 ⟨rfl, c1, c2, c3, c4, c5, c6, rfl⟩
  go_wp2_with fail
  go_ret
  exact ⟨rfl, by repeat (first | exact Grown.refl _ | apply Grown.drew | apply Grown.alloc)⟩

set_option maxHeartbeats 2000000 in
theorem payl_1f (a b c d e f : Int) (i p : Int) (hi : 0 ≤ i) (hi1 : i ≤ 9223372036854775807) (hc : 0 ≤ c) (hd : 0 ≤ d) (hc1 : c ≤ 9223372036854775807) (hd1 : d ≤ 9223372036854775807) (he : I64 e) (hf : I64 f) (h : i ≤ c) (w : World) :
    Calls Try.prog 4 #[.int .i64 a, .int .i64 b, .int .i64 c, .int .i64 d, .int .i64 e, .int .i64 f, .bool false, .int .i64 i, .int .i64 p] w fun e' w' => e' = .returned (.bool true) ∧ Grown w w' := by
  have hx : excess c d i = 0 := by unfold excess; rw [if_pos h]
  have hC : addedL c i = c - i := by unfold addedL; rw [if_pos h]
  have hD : accruedL c d i = d := by unfold accruedL; rw [if_pos h]
  have hii : I64 i := ⟨by omega, hi1⟩
  have hE : wrap64 (e + excess c d i) = e := by rw [hx]; exact wrap_add0 e he
  have hO : (false || ovf e (excess c d i) || ovf f i) = (ovf f i) := by rw [hx]; rw [ovf_zero e he]; simp
  have HP := fun w => coursePay a b c d e f false i p hi hi1 hc hd hc1 hd1 he hf (wrap64 (b - p)) (c - i) (d) e (wrap64 (f + i)) (ovf f i) rfl hC hD hE rfl hO w
  have H : Hid (∀ w, Calls Try.prog 7 #[.agg (crs a b c d e f false), .int .i64 i, .int .i64 p] w fun e1 w' => e1 = .returned (.agg (crs a (wrap64 (b - p)) (c - i) (d) e (wrap64 (f + i)) (ovf f i))) ∧ Six w w') := HP
  clear HP hx hC hD hE hO
  have t1 := back_one e he
  have t2 := back_add1 f i
  have t3 := back_sub b p
  go_enter Try.func4, Try.ntmps4
  go_wp2_with fail
  refine (H.out _).mono ?_
  rintro e1 w1 ⟨rfl, c1, c2, c3, c4, c5, c6, rfl⟩
  go_wp2_with fail
  refine (addOvf e 0 he (by unfold I64; omega) _).mono ?_
  rw [ovf_zero e he]
  rintro e1 w1 ⟨rfl, rfl⟩
  go_wp2_with fail
  refine (addOvf f i hf hii _).mono ?_
  rintro e1 w1 ⟨rfl, rfl⟩
  go_wp2_with fail
  go_ret
  exact ⟨rfl, by repeat (first | exact Grown.refl _ | apply Grown.drew | apply Grown.alloc)⟩

set_option maxHeartbeats 2000000 in
theorem payl_2t (a b c d e f : Int) (i p : Int) (hi : 0 ≤ i) (hi1 : i ≤ 9223372036854775807) (hc : 0 ≤ c) (hd : 0 ≤ d) (hc1 : c ≤ 9223372036854775807) (hd1 : d ≤ 9223372036854775807) (he : I64 e) (hf : I64 f) (h : c < i) (h' : i - c ≤ d) (w : World) :
    Calls Try.prog 4 #[.int .i64 a, .int .i64 b, .int .i64 c, .int .i64 d, .int .i64 e, .int .i64 f, .bool true, .int .i64 i, .int .i64 p] w fun e' w' => e' = .returned (.bool true) ∧ Grown w w' := by
  have hx : excess c d i = 0 := by unfold excess; rw [if_neg (by omega), if_pos h']
  have hC : addedL c i = 0 := by unfold addedL; rw [if_neg (by omega)]
  have hD : accruedL c d i = d - (i - c) := by unfold accruedL; rw [if_neg (by omega), if_pos h']
  have hii : I64 i := ⟨by omega, hi1⟩
  have hE : wrap64 (e + excess c d i) = e := by rw [hx]; exact wrap_add0 e he
  have hO : (true || ovf e (excess c d i) || ovf f i) = true := by rw [hx]; simp
  have HP := fun w => coursePay a b c d e f true i p hi hi1 hc hd hc1 hd1 he hf (wrap64 (b - p)) (0) (d - (i - c)) e (wrap64 (f + i)) true rfl hC hD hE rfl hO w
  have H : Hid (∀ w, Calls Try.prog 7 #[.agg (crs a b c d e f true), .int .i64 i, .int .i64 p] w fun e1 w' => e1 = .returned (.agg (crs a (wrap64 (b - p)) (0) (d - (i - c)) e (wrap64 (f + i)) true)) ∧ Six w w') := HP
  clear HP hx hC hD hE hO
  have t1 := back_one e he
  have t2 := back_add1 f i
  have t3 := back_sub b p
  go_enter Try.func4, Try.ntmps4
  go_wp2_with fail
  refine (H.out _).mono ?_
  rintro e1 w1 ⟨rfl, c1, c2, c3, c4, c5, c6, rfl⟩
  go_wp2_with fail
  go_ret
  exact ⟨rfl, by repeat (first | exact Grown.refl _ | apply Grown.drew | apply Grown.alloc)⟩

set_option maxHeartbeats 2000000 in
theorem payl_2f (a b c d e f : Int) (i p : Int) (hi : 0 ≤ i) (hi1 : i ≤ 9223372036854775807) (hc : 0 ≤ c) (hd : 0 ≤ d) (hc1 : c ≤ 9223372036854775807) (hd1 : d ≤ 9223372036854775807) (he : I64 e) (hf : I64 f) (h : c < i) (h' : i - c ≤ d) (w : World) :
    Calls Try.prog 4 #[.int .i64 a, .int .i64 b, .int .i64 c, .int .i64 d, .int .i64 e, .int .i64 f, .bool false, .int .i64 i, .int .i64 p] w fun e' w' => e' = .returned (.bool true) ∧ Grown w w' := by
  have hx : excess c d i = 0 := by unfold excess; rw [if_neg (by omega), if_pos h']
  have hC : addedL c i = 0 := by unfold addedL; rw [if_neg (by omega)]
  have hD : accruedL c d i = d - (i - c) := by unfold accruedL; rw [if_neg (by omega), if_pos h']
  have hii : I64 i := ⟨by omega, hi1⟩
  have hE : wrap64 (e + excess c d i) = e := by rw [hx]; exact wrap_add0 e he
  have hO : (false || ovf e (excess c d i) || ovf f i) = (ovf f i) := by rw [hx]; rw [ovf_zero e he]; simp
  have HP := fun w => coursePay a b c d e f false i p hi hi1 hc hd hc1 hd1 he hf (wrap64 (b - p)) (0) (d - (i - c)) e (wrap64 (f + i)) (ovf f i) rfl hC hD hE rfl hO w
  have H : Hid (∀ w, Calls Try.prog 7 #[.agg (crs a b c d e f false), .int .i64 i, .int .i64 p] w fun e1 w' => e1 = .returned (.agg (crs a (wrap64 (b - p)) (0) (d - (i - c)) e (wrap64 (f + i)) (ovf f i))) ∧ Six w w') := HP
  clear HP hx hC hD hE hO
  have t1 := back_one e he
  have t2 := back_add1 f i
  have t3 := back_sub b p
  go_enter Try.func4, Try.ntmps4
  go_wp2_with fail
  refine (H.out _).mono ?_
  rintro e1 w1 ⟨rfl, c1, c2, c3, c4, c5, c6, rfl⟩
  go_wp2_with fail
  refine (addOvf e 0 he (by unfold I64; omega) _).mono ?_
  rw [ovf_zero e he]
  rintro e1 w1 ⟨rfl, rfl⟩
  go_wp2_with fail
  refine (addOvf f i hf hii _).mono ?_
  rintro e1 w1 ⟨rfl, rfl⟩
  go_wp2_with fail
  go_ret
  exact ⟨rfl, by repeat (first | exact Grown.refl _ | apply Grown.drew | apply Grown.alloc)⟩

set_option maxHeartbeats 2000000 in
theorem payl_3t (a b c d e f : Int) (i p : Int) (hi : 0 ≤ i) (hi1 : i ≤ 9223372036854775807) (hc : 0 ≤ c) (hd : 0 ≤ d) (hc1 : c ≤ 9223372036854775807) (hd1 : d ≤ 9223372036854775807) (he : I64 e) (hf : I64 f) (h : c < i) (h' : d < i - c) (w : World) :
    Calls Try.prog 4 #[.int .i64 a, .int .i64 b, .int .i64 c, .int .i64 d, .int .i64 e, .int .i64 f, .bool true, .int .i64 i, .int .i64 p] w fun e' w' => e' = .returned (.bool true) ∧ Grown w w' := by
  have hx : excess c d i = (i - c - d) := by unfold excess; rw [if_neg (by omega), if_neg (by omega)]
  have hC : addedL c i = 0 := by unfold addedL; rw [if_neg (by omega)]
  have hD : accruedL c d i = 0 := by unfold accruedL; rw [if_neg (by omega), if_neg (by omega)]
  have hii : I64 i := ⟨by omega, hi1⟩
  have hxx : I64 (i - c - d) := ⟨by omega, by omega⟩
  have hE : wrap64 (e + excess c d i) = (wrap64 (e + (i - c - d))) := by rw [hx]
  have hO : (true || ovf e (excess c d i) || ovf f i) = true := by rw [hx]; simp
  have HP := fun w => coursePay a b c d e f true i p hi hi1 hc hd hc1 hd1 he hf (wrap64 (b - p)) (0) (0) (wrap64 (e + (i - c - d))) (wrap64 (f + i)) true rfl hC hD hE rfl hO w
  have H : Hid (∀ w, Calls Try.prog 7 #[.agg (crs a b c d e f true), .int .i64 i, .int .i64 p] w fun e1 w' => e1 = .returned (.agg (crs a (wrap64 (b - p)) (0) (0) (wrap64 (e + (i - c - d))) (wrap64 (f + i)) true)) ∧ Six w w') := HP
  clear HP hx hC hD hE hO
  have t1 := back_add1 e (i - c - d)
  have t2 := back_add1 f i
  have t3 := back_sub b p
  go_enter Try.func4, Try.ntmps4
  go_wp2_with fail
  refine (H.out _).mono ?_
  rintro e1 w1 ⟨rfl, c1, c2, c3, c4, c5, c6, rfl⟩
  go_wp2_with fail
  go_ret
  exact ⟨rfl, by repeat (first | exact Grown.refl _ | apply Grown.drew | apply Grown.alloc)⟩

set_option maxHeartbeats 2000000 in
theorem payl_3ft (a b c d e f : Int) (i p : Int) (hi : 0 ≤ i) (hi1 : i ≤ 9223372036854775807) (hc : 0 ≤ c) (hd : 0 ≤ d) (hc1 : c ≤ 9223372036854775807) (hd1 : d ≤ 9223372036854775807) (he : I64 e) (hf : I64 f) (h : c < i) (h' : d < i - c) (hov : ovf e (i - c - d) = true) (w : World) :
    Calls Try.prog 4 #[.int .i64 a, .int .i64 b, .int .i64 c, .int .i64 d, .int .i64 e, .int .i64 f, .bool false, .int .i64 i, .int .i64 p] w fun e' w' => e' = .returned (.bool true) ∧ Grown w w' := by
  have hx : excess c d i = (i - c - d) := by unfold excess; rw [if_neg (by omega), if_neg (by omega)]
  have hC : addedL c i = 0 := by unfold addedL; rw [if_neg (by omega)]
  have hD : accruedL c d i = 0 := by unfold accruedL; rw [if_neg (by omega), if_neg (by omega)]
  have hii : I64 i := ⟨by omega, hi1⟩
  have hxx : I64 (i - c - d) := ⟨by omega, by omega⟩
  have hE : wrap64 (e + excess c d i) = (wrap64 (e + (i - c - d))) := by rw [hx]
  have hO : (false || ovf e (excess c d i) || ovf f i) = true := by rw [hx]; rw [hov]; simp
  have HP := fun w => coursePay a b c d e f false i p hi hi1 hc hd hc1 hd1 he hf (wrap64 (b - p)) (0) (0) (wrap64 (e + (i - c - d))) (wrap64 (f + i)) true rfl hC hD hE rfl hO w
  have H : Hid (∀ w, Calls Try.prog 7 #[.agg (crs a b c d e f false), .int .i64 i, .int .i64 p] w fun e1 w' => e1 = .returned (.agg (crs a (wrap64 (b - p)) (0) (0) (wrap64 (e + (i - c - d))) (wrap64 (f + i)) true)) ∧ Six w w') := HP
  clear HP hx hC hD hE hO
  have t1 := back_add1 e (i - c - d)
  have t2 := back_add1 f i
  have t3 := back_sub b p
  go_enter Try.func4, Try.ntmps4
  go_wp2_with fail
  refine (H.out _).mono ?_
  rintro e1 w1 ⟨rfl, c1, c2, c3, c4, c5, c6, rfl⟩
  go_wp2_with fail
  refine (addOvf e (i - c - d) he hxx _).mono ?_
  rw [hov]
  rintro e1 w1 ⟨rfl, rfl⟩
  go_wp2_with fail
  go_ret
  exact ⟨rfl, by repeat (first | exact Grown.refl _ | apply Grown.drew | apply Grown.alloc)⟩

set_option maxHeartbeats 2000000 in
theorem payl_3ff (a b c d e f : Int) (i p : Int) (hi : 0 ≤ i) (hi1 : i ≤ 9223372036854775807) (hc : 0 ≤ c) (hd : 0 ≤ d) (hc1 : c ≤ 9223372036854775807) (hd1 : d ≤ 9223372036854775807) (he : I64 e) (hf : I64 f) (h : c < i) (h' : d < i - c) (hov : ovf e (i - c - d) = false) (w : World) :
    Calls Try.prog 4 #[.int .i64 a, .int .i64 b, .int .i64 c, .int .i64 d, .int .i64 e, .int .i64 f, .bool false, .int .i64 i, .int .i64 p] w fun e' w' => e' = .returned (.bool true) ∧ Grown w w' := by
  have hx : excess c d i = (i - c - d) := by unfold excess; rw [if_neg (by omega), if_neg (by omega)]
  have hC : addedL c i = 0 := by unfold addedL; rw [if_neg (by omega)]
  have hD : accruedL c d i = 0 := by unfold accruedL; rw [if_neg (by omega), if_neg (by omega)]
  have hii : I64 i := ⟨by omega, hi1⟩
  have hxx : I64 (i - c - d) := ⟨by omega, by omega⟩
  have hE : wrap64 (e + excess c d i) = (wrap64 (e + (i - c - d))) := by rw [hx]
  have hO : (false || ovf e (excess c d i) || ovf f i) = (ovf f i) := by rw [hx]; rw [hov]; simp
  have HP := fun w => coursePay a b c d e f false i p hi hi1 hc hd hc1 hd1 he hf (wrap64 (b - p)) (0) (0) (wrap64 (e + (i - c - d))) (wrap64 (f + i)) (ovf f i) rfl hC hD hE rfl hO w
  have H : Hid (∀ w, Calls Try.prog 7 #[.agg (crs a b c d e f false), .int .i64 i, .int .i64 p] w fun e1 w' => e1 = .returned (.agg (crs a (wrap64 (b - p)) (0) (0) (wrap64 (e + (i - c - d))) (wrap64 (f + i)) (ovf f i))) ∧ Six w w') := HP
  clear HP hx hC hD hE hO
  have t1 := back_add1 e (i - c - d)
  have t2 := back_add1 f i
  have t3 := back_sub b p
  go_enter Try.func4, Try.ntmps4
  go_wp2_with fail
  refine (H.out _).mono ?_
  rintro e1 w1 ⟨rfl, c1, c2, c3, c4, c5, c6, rfl⟩
  go_wp2_with fail
  refine (addOvf e (i - c - d) he hxx _).mono ?_
  rw [hov]
  rintro e1 w1 ⟨rfl, rfl⟩
  go_wp2_with fail
  refine (addOvf f i hf hii _).mono ?_
  rintro e1 w1 ⟨rfl, rfl⟩
  go_wp2_with fail
  go_ret
  exact ⟨rfl, by repeat (first | exact Grown.refl _ | apply Grown.drew | apply Grown.alloc)⟩

end Go.Proofs.Qxb6603765a
