/-
  No cell of these rows narrows 'for every input' (looked for: loops, veiled, ifaces, maps, wideKeys, modest, calm, conditions, laid).
  DERIVED. THE GIVEN ROWS OF THIS SEAT. 2 by the template 'for every input the law returns true; each argument reads behind the call as it read before'; 0 by the template 'total and deterministic' (their statements: Qxb6604432aTotals.lean).
  GIVEN WITH THE SEED: the statements are not yours to turn. If you find one false, say at which input.
  Laid BY PROGRAM, IN A SANDBOX (cutbox-rows.mjs): the forced cells as the released guide's own fill.sh prints them over the translation fca2ec8426a00853… (all of the seat's roots in one cut). By AI agents, Wed Nov 11 2026. No macro, syntax, notation, axiom, sorry.
-/
import Derived.Test.Qxb6604432aChecked
import GoSem.Claim
import GoSem.ClaimJoined
import GoSem.ClaimMapViews
import Derived.JoinedTies
import Derived.KernelRfl
namespace Go.Proofs.Qxb6604432a
/- THE CELL 'sum', in the pinned program and in every row, IS THE sha256 OF THE DUMP (.gsa) THAT Qxb6604432aProg.lean LOADS. Nothing in Lean hashes anything: it is a label: what it is worth is what the hold of that sum in a sandbox is worth. -/
noncomputable def Try.pinned : Pinned := { name := "qxb6604432a", sum := "fca2ec8426a00853d9d199e82af6a592e4c33ac368c463e5a2d7e933edc4a9ef", checked := Try.checked }
namespace Rows
def none {H : Type} : Left H := { results := [], args := [] }

/-- 'zzlaws_root_b1.FnBitPlacesSeqAtItsResidue': WHATEVER THE INPUT: true; the input reads as it did. -/
def fnBitPlacesSeqAtItsResidueSpec : ChangeSpec := { name := "fnBitPlacesSeqAtItsResidue", fn := fun _ => fun
  | [d1, d2] => { results := [.lit (.bool true)], args := [d1, d2] }
  | _ => none }
def fnBitPlacesSeqAtItsResidueRow : OpenClaim := { program := "qxb6604432a", sum := "fca2ec8426a00853d9d199e82af6a592e4c33ac368c463e5a2d7e933edc4a9ef", func := "example.com/seqtally/seqtally/zzlaws_root_b1.FnBitPlacesSeqAtItsResidue", spec := "fnBitPlacesSeqAtItsResidue", apart := false }
def FnBitPlacesSeqAtItsResidueSaid : Prop := fnBitPlacesSeqAtItsResidueRow.holds Try.pinned (OpenSpec.ofChange fnBitPlacesSeqAtItsResidueSpec)

/-- ITS FALSE NEIGHBOUR: 'it returns false'. Refute it at one input. -/
def fnBitPlacesSeqAtItsResidueWrong : ChangeSpec := { name := "fnBitPlacesSeqAtItsResidue", fn := fun _ => fun
  | [d1, d2] => { results := [.lit (.bool false)], args := [d1, d2] }
  | _ => none }
def FnBitPlacesSeqAtItsResidueWrongFalsely : Prop := fnBitPlacesSeqAtItsResidueRow.holds Try.pinned (OpenSpec.ofChange fnBitPlacesSeqAtItsResidueWrong)

/-- 'zzlaws_root_b1.FnBitSharedExactlyAtRingMultiples': WHATEVER THE INPUT: true; the input reads as it did. -/
def fnBitSharedExactlyAtRingMultiplesSpec : ChangeSpec := { name := "fnBitSharedExactlyAtRingMultiples", fn := fun _ => fun
  | [d1, d2, d3] => { results := [.lit (.bool true)], args := [d1, d2, d3] }
  | _ => none }
def fnBitSharedExactlyAtRingMultiplesRow : OpenClaim := { program := "qxb6604432a", sum := "fca2ec8426a00853d9d199e82af6a592e4c33ac368c463e5a2d7e933edc4a9ef", func := "example.com/seqtally/seqtally/zzlaws_root_b1.FnBitSharedExactlyAtRingMultiples", spec := "fnBitSharedExactlyAtRingMultiples", apart := false }
def FnBitSharedExactlyAtRingMultiplesSaid : Prop := fnBitSharedExactlyAtRingMultiplesRow.holds Try.pinned (OpenSpec.ofChange fnBitSharedExactlyAtRingMultiplesSpec)

/-- ITS FALSE NEIGHBOUR: 'it returns false'. Refute it at one input. -/
def fnBitSharedExactlyAtRingMultiplesWrong : ChangeSpec := { name := "fnBitSharedExactlyAtRingMultiples", fn := fun _ => fun
  | [d1, d2, d3] => { results := [.lit (.bool false)], args := [d1, d2, d3] }
  | _ => none }
def FnBitSharedExactlyAtRingMultiplesWrongFalsely : Prop := fnBitSharedExactlyAtRingMultiplesRow.holds Try.pinned (OpenSpec.ofChange fnBitSharedExactlyAtRingMultiplesWrong)

end Rows
end Go.Proofs.Qxb6604432a
