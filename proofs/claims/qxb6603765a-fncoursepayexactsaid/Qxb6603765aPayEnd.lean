/-
  THE LAW 'FnCoursePayExact', whole.
-/
import Derived.Test.Qxb6603765aPayLaw
namespace Go.Proofs.Qxb6603765a
open Go.RowKit

theorem pay_law (a b c d e f : Int) (o : Bool) (i p : Int) (hc : I64 c) (hd : I64 d) (he : I64 e) (hf : I64 f) (hi : I64 i) (w : World) :
    Calls Try.prog 4 #[.int .i64 a, .int .i64 b, .int .i64 c, .int .i64 d, .int .i64 e, .int .i64 f, .bool o, .int .i64 i, .int .i64 p] w fun e' w' => e' = .returned (.bool true) ∧ Grown w w' := by
  obtain ⟨_, hc1⟩ := hc
  obtain ⟨_, hd1⟩ := hd
  obtain ⟨_, hi1⟩ := hi
  by_cases n1 : i < 0
  · go_enter Try.func4, Try.ntmps4
    go_wp2
    go_ret
    exact ⟨rfl, Grown.refl _⟩
  by_cases n2 : c < 0
  · go_enter Try.func4, Try.ntmps4
    go_wp2
    go_ret
    exact ⟨rfl, Grown.refl _⟩
  by_cases n3 : d < 0
  · go_enter Try.func4, Try.ntmps4
    go_wp2
    go_ret
    exact ⟨rfl, Grown.refl _⟩
  have hi0 : 0 ≤ i := by omega
  have hc0 : 0 ≤ c := by omega
  have hd0 : 0 ≤ d := by omega
  by_cases h : i ≤ c
  · cases o
    · exact payl_1f a b c d e f i p hi0 hi1 hc0 hd0 hc1 hd1 he hf h w
    · exact payl_1t a b c d e f i p hi0 hi1 hc0 hd0 hc1 hd1 he hf h w
  have hl : c < i := by omega
  by_cases h' : i - c ≤ d
  · cases o
    · exact payl_2f a b c d e f i p hi0 hi1 hc0 hd0 hc1 hd1 he hf hl h' w
    · exact payl_2t a b c d e f i p hi0 hi1 hc0 hd0 hc1 hd1 he hf hl h' w
  have hl' : d < i - c := by omega
  cases o
  · cases hov : ovf e (i - c - d)
    · exact payl_3ff a b c d e f i p hi0 hi1 hc0 hd0 hc1 hd1 he hf hl hl' hov w
    · exact payl_3ft a b c d e f i p hi0 hi1 hc0 hd0 hc1 hd1 he hf hl hl' hov w
  · exact payl_3t a b c d e f i p hi0 hi1 hc0 hd0 hc1 hd1 he hf hl hl' w
end Go.Proofs.Qxb6603765a
