/-
  course.pay and ZZCoursePay, for every interest that is not negative.
-/
import Derived.Test.Qxb6603765aPayA
import Derived.Test.Qxb6603765aPayB
import Derived.Test.Qxb6603765aPayC
import Derived.Test.Qxb6603765aPayD
namespace Go.Proofs.Qxb6603765a
open Go.RowKit

/-- What is left of the interest added. -/
def addedL (c i : Int) : Int := if i ≤ c then c - i else 0
/-- What is left of the interest accrued. -/
def accruedL (c d i : Int) : Int := if i ≤ c then d else if i - c ≤ d then d - (i - c) else 0
/-- What goes into credit. -/
def excess (c d i : Int) : Int := if i ≤ c then 0 else if i - c ≤ d then 0 else i - c - d

theorem wrap_add0 (e : Int) (he : I64 e) : wrap64 (e + 0) = e := by
  unfold I64 at he
  unfold wrap64
  omega

theorem pay (a b c d e f : Int) (o : Bool) (i p : Int) (hi : 0 ≤ i) (hi1 : i ≤ 9223372036854775807) (hc : 0 ≤ c) (hd : 0 ≤ d) (hc1 : c ≤ 9223372036854775807) (hd1 : d ≤ 9223372036854775807) (he : I64 e) (hf : I64 f) (w : World) (g : Nat) (hg : g = w.heap.size) :
    Calls Try.prog 11 #[.pointer (some ⟨g, 0, none⟩), .agg #[.int .i64 i, .int .i64 p]] (w.alloc (.cells (crs a b c d e f o) 39)) fun e' w' => e' = .returned (.tuple #[]) ∧
      ∃ c1, w' = ((w.alloc (.cells (crs a (wrap64 (b - p)) (addedL c i) (accruedL c d i) (wrap64 (e + excess c d i)) (wrap64 (f + i)) (o || ovf e (excess c d i) || ovf f i)) 39)).alloc (.cells c1 37)).drew.drew.drew.drew.drew.drew := by
  subst hg
  unfold addedL accruedL excess
  by_cases h : i ≤ c
  · rw [if_pos h, if_pos h, if_pos h, wrap_add0 e he, ovf_zero e he, Bool.or_false]
    cases ho : ovf f i
    · rw [Bool.or_false]; exact pay_1f a b c d e f o i p hi hi1 hc hd hc1 hd1 he hf h ho w
    · rw [Bool.or_true]; exact pay_1t a b c d e f o i p hi hi1 hc hd hc1 hd1 he hf h ho w
  rw [if_neg h, if_neg h, if_neg h]
  have hl : c < i := by omega
  by_cases h' : i - c ≤ d
  · rw [if_pos h', if_pos h', wrap_add0 e he, ovf_zero e he, Bool.or_false]
    cases ho : ovf f i
    · rw [Bool.or_false]; exact pay_2f a b c d e f o i p hi hi1 hc hd hc1 hd1 he hf hl h' ho w
    · rw [Bool.or_true]; exact pay_2t a b c d e f o i p hi hi1 hc hd hc1 hd1 he hf hl h' ho w
  rw [if_neg h', if_neg h']
  have hl' : d < i - c := by omega
  cases ho1 : ovf e (i - c - d)
  · rw [Bool.or_false]
    cases ho : ovf f i
    · rw [Bool.or_false]; exact pay_3ff a b c d e f o i p hi hi1 hc hd hc1 hd1 he hf hl hl' ho1 ho w
    · rw [Bool.or_true]; exact pay_3ft a b c d e f o i p hi hi1 hc hd hc1 hd1 he hf hl hl' ho1 ho w
  · rw [Bool.or_true, Bool.true_or]
    cases ho : ovf f i
    · exact pay_3tf a b c d e f o i p hi hi1 hc hd hc1 hd1 he hf hl hl' ho1 ho w
    · exact pay_3tt a b c d e f o i p hi hi1 hc hd hc1 hd1 he hf hl hl' ho1 ho w

/-- The world behind ZZCoursePay: six new blocks and seven draws. -/
def Six (w w' : World) : Prop := ∃ c1 c2 c3 c4 c5 c6 : Array Value, w' = ((((((w.alloc (.cells c1 23)).alloc (.cells c2 23)).alloc (.cells c3 23)).alloc (.cells c4 39)).alloc (.cells c5 37)).alloc (.cells c6 23)).drew.drew.drew.drew.drew.drew.drew

set_option maxHeartbeats 1000000 in
theorem coursePay (a b c d e f : Int) (o : Bool) (i p : Int) (hi : 0 ≤ i) (hi1 : i ≤ 9223372036854775807) (hc : 0 ≤ c) (hd : 0 ≤ d) (hc1 : c ≤ 9223372036854775807) (hd1 : d ≤ 9223372036854775807) (he : I64 e) (hf : I64 f)
    (b' c' d' e' f' : Int) (o' : Bool) (eb : wrap64 (b - p) = b') (ec : addedL c i = c') (ed : accruedL c d i = d') (ee : wrap64 (e + excess c d i) = e') (ef : wrap64 (f + i) = f') (eo : (o || ovf e (excess c d i) || ovf f i) = o') (w : World) :
    Calls Try.prog 7 #[.agg (crs a b c d e f o), .int .i64 i, .int .i64 p] w fun e1 w' => e1 = .returned (.agg (crs a b' c' d' e' f' o')) ∧ Six w w' := by
  have H : Hid (wrap64 (b - p) = b' ∧ addedL c i = c' ∧ accruedL c d i = d' ∧ wrap64 (e + excess c d i) = e' ∧ wrap64 (f + i) = f' ∧ (o || ovf e (excess c d i) || ovf f i) = o') := ⟨eb, ec, ed, ee, ef, eo⟩
  clear eb ec ed ee ef eo
  go_enter Try.func7, Try.ntmps7
  go_wp2_with fail
  refine (toCourse a b c d e f o _).mono ?_
  rintro e1 w1 ⟨rfl, rfl⟩
  go_wp2_with fail
  refine (pay a b c d e f o i p hi hi1 hc hd hc1 hd1 he hf _ _ (by simp)).mono ?_
  rw [H.out.1, H.out.2.1, H.out.2.2.1, H.out.2.2.2.1, H.out.2.2.2.2.1, H.out.2.2.2.2.2]
  rintro e1 w1 ⟨rfl, k1, rfl⟩
  go_wp2_with fail
  refine (fromCourse _ a b' c' d' e' f' o' _ (by simp [go_sem]) (by simp [go_sem]) (by simp [go_sem]) (by simp [go_sem]) (by simp [go_sem]) (by simp [go_sem]) (by simp [go_sem]) (by simp)).mono ?_
  rintro e1 w1 ⟨rfl, rfl⟩
  go_wp2_with fail
  exact bodyPost_ret (v := .agg (crs a b' c' d' e' f' o')) (by simp [results, Try.results7, go_sem]) rfl ⟨rfl, _, _, _, _, _, _, rfl⟩
end Go.Proofs.Qxb6603765a
