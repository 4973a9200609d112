/-
  THE CALLEES OF THE TWO LAWS ON A LOAN's COURSE: contracts over any world.
-/
import Derived.Test.Qxb6603765aProg
import Derived.WalkKit
import Derived.WalkSpells
import Derived.WalkLawsBesides
import Derived.RowKit3
import Derived.Deep.RegionHeld
import Derived.StillTactics
import Derived.Laws.Pointers
namespace Go.Proofs.Qxb6603765a
open Go.RowKit

/-- The cells of a course. -/
abbrev crs (a b c d e f : Int) (o : Bool) : Array Value := #[.int .i64 a, .int .i64 b, .int .i64 c, .int .i64 d, .int .i64 e, .int .i64 f, .bool o]

set_option maxHeartbeats 400000 in
theorem toCourse (a b c d e f : Int) (o : Bool) (w : World) :
    Calls Try.prog 8 #[.agg (crs a b c d e f o)] w fun e' w' => e' = .returned (.pointer (some ⟨w.heap.size + 1, 0, none⟩)) ∧ w' = (w.alloc (.cells (crs a b c d e f o) 23)).alloc (.cells (crs a b c d e f o) 39) := by
  go_enter Try.func8, Try.ntmps8
  go_wp2
  go_ret
  exact ⟨rfl, rfl⟩

set_option maxHeartbeats 1000000 in
theorem fromCourse (g : Nat) (a b c d e f : Int) (o : Bool) (w : World) (h0 : w.cell? ⟨g, 0, none⟩ = some (.int .i64 a)) (h1 : w.cell? ⟨g, 1, none⟩ = some (.int .i64 b)) (h2 : w.cell? ⟨g, 2, none⟩ = some (.int .i64 c))
    (h3 : w.cell? ⟨g, 3, none⟩ = some (.int .i64 d)) (h4 : w.cell? ⟨g, 4, none⟩ = some (.int .i64 e)) (h5 : w.cell? ⟨g, 5, none⟩ = some (.int .i64 f)) (h6 : w.cell? ⟨g, 6, none⟩ = some (.bool o)) (hg : g < w.heap.size) :
    Calls Try.prog 10 #[.pointer (some ⟨g, 0, none⟩)] w fun e' w' => e' = .returned (.agg (crs a b c d e f o)) ∧ w' = (w.alloc (.cells (crs a b c d e f o) 23)).drew := by
  go_enter Try.func10, Try.ntmps10
  go_wp2
  go_region_held (fun w' => w'.cell? ⟨g, 0, none⟩ = some (.int .i64 a) ∧ w'.cell? ⟨g, 1, none⟩ = some (.int .i64 b) ∧ w'.cell? ⟨g, 2, none⟩ = some (.int .i64 c) ∧ w'.cell? ⟨g, 3, none⟩ = some (.int .i64 d) ∧ w'.cell? ⟨g, 4, none⟩ = some (.int .i64 e) ∧ w'.cell? ⟨g, 5, none⟩ = some (.int .i64 f) ∧ w'.cell? ⟨g, 6, none⟩ = some (.bool o)) (simp [go_sem, *]) (fail)
  go_wp2
  exact bodyPost_ret (v := .agg (crs a b c d e f o)) (by simp [results, Try.results10, go_sem]) rfl ⟨rfl, rfl⟩

end Go.Proofs.Qxb6603765a
