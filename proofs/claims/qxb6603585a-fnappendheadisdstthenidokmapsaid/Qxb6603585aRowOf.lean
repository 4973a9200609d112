/-
  FROM WHAT THE OPENERS HAND OVER (cells at 'a.add i') TO 'Row'.
-/
import Derived.Test.Qxb6603585aRow
import Derived.ProofKit
namespace Go.Proofs.Qxb6603585a
open Go.ChangeShapes Go.WideShapes Go.ChangeAt Go.RowKit

theorem Row.of_cells {W : World} {a : Addr} {n : Nat} {X : Nat → Value} (h : ∀ i, i < n → W.cell? (a.add i) = some (X i)) : Row W (some a) n X := by
  intro hn
  obtain ⟨b, off, spot⟩ := a
  have hspot : spot = none := by simpa [Addr.add] using World.cell?_spot (h 0 hn)
  subst hspot
  have cj : ∀ j, j < n → W.cell? ⟨b, off + j, none⟩ = some (X j) := fun j hj => by rw [← add_plain]; exact h j hj
  exact ⟨b, off, rfl, World.block_lt_of_cell? W _ (cj 0 hn), cj⟩
end Go.Proofs.Qxb6603585a
