/-
  No cell of these rows narrows 'for every input' (looked for: loops, veiled, ifaces, maps, wideKeys, modest, calm, conditions, laid).
  DERIVED. THE GIVEN ROWS OF THIS SEAT. 2 by the template 'for every input the law returns true; each argument reads behind the call as it read before'; 0 by the template 'total and deterministic' (their statements: Qxb6603765aTotals.lean).
  GIVEN WITH THE SEED: the statements are not yours to turn. If you find one false, say at which input.
  Laid BY PROGRAM, IN A SANDBOX (cutbox-rows.mjs): the forced cells as the released guide's own fill.sh prints them over the translation c06a20604c53d3a3… (all of the seat's roots in one cut). By AI agents, Wed Nov 11 2026. No macro, syntax, notation, axiom, sorry.
-/
import Derived.Test.Qxb6603765aChecked
import GoSem.Claim
import GoSem.ClaimJoined
import GoSem.ClaimMapViews
import Derived.JoinedTies
import Derived.KernelRfl
namespace Go.Proofs.Qxb6603765a
/- THE CELL 'sum', in the pinned program and in every row, IS THE sha256 OF THE DUMP (.gsa) THAT Qxb6603765aProg.lean LOADS. Nothing in Lean hashes anything: it is a label: what it is worth is what the hold of that sum in a sandbox is worth. -/
noncomputable def Try.pinned : Pinned := { name := "qxb6603765a", sum := "c06a20604c53d3a39c2b8dd5a48296ae3a6f37a8eeb98b60b8fc4479fe8b21d1", checked := Try.checked }
namespace Rows
def none {H : Type} : Left H := { results := [], args := [] }

/-- 'zzlaws_internal_loan_b1.FnCourseSumExact': WHATEVER THE INPUT: true; the input reads as it did. -/
def fnCourseSumExactSpec : ChangeSpec := { name := "fnCourseSumExact", fn := fun _ => fun
  | [d1, d2, d3, d4, d5, d6, d7, d8, d9] => { results := [.lit (.bool true)], args := [d1, d2, d3, d4, d5, d6, d7, d8, d9] }
  | _ => none }
def fnCourseSumExactRow : OpenClaim := { program := "qxb6603765a", sum := "c06a20604c53d3a39c2b8dd5a48296ae3a6f37a8eeb98b60b8fc4479fe8b21d1", func := "example.com/karatbook/karatbook/zzlaws_internal_loan_b1.FnCourseSumExact", spec := "fnCourseSumExact", apart := false }
def FnCourseSumExactSaid : Prop := fnCourseSumExactRow.holds Try.pinned (OpenSpec.ofChange fnCourseSumExactSpec)

/-- ITS FALSE NEIGHBOUR: 'it returns false'. Refute it at one input. -/
def fnCourseSumExactWrong : ChangeSpec := { name := "fnCourseSumExact", fn := fun _ => fun
  | [d1, d2, d3, d4, d5, d6, d7, d8, d9] => { results := [.lit (.bool false)], args := [d1, d2, d3, d4, d5, d6, d7, d8, d9] }
  | _ => none }
def FnCourseSumExactWrongFalsely : Prop := fnCourseSumExactRow.holds Try.pinned (OpenSpec.ofChange fnCourseSumExactWrong)

/-- 'zzlaws_internal_loan_b1.FnCoursePayExact': WHATEVER THE INPUT: true; the input reads as it did. -/
def fnCoursePayExactSpec : ChangeSpec := { name := "fnCoursePayExact", fn := fun _ => fun
  | [d1, d2, d3, d4, d5, d6, d7, d8, d9] => { results := [.lit (.bool true)], args := [d1, d2, d3, d4, d5, d6, d7, d8, d9] }
  | _ => none }
def fnCoursePayExactRow : OpenClaim := { program := "qxb6603765a", sum := "c06a20604c53d3a39c2b8dd5a48296ae3a6f37a8eeb98b60b8fc4479fe8b21d1", func := "example.com/karatbook/karatbook/zzlaws_internal_loan_b1.FnCoursePayExact", spec := "fnCoursePayExact", apart := false }
def FnCoursePayExactSaid : Prop := fnCoursePayExactRow.holds Try.pinned (OpenSpec.ofChange fnCoursePayExactSpec)

/-- ITS FALSE NEIGHBOUR: 'it returns false'. Refute it at one input. -/
def fnCoursePayExactWrong : ChangeSpec := { name := "fnCoursePayExact", fn := fun _ => fun
  | [d1, d2, d3, d4, d5, d6, d7, d8, d9] => { results := [.lit (.bool false)], args := [d1, d2, d3, d4, d5, d6, d7, d8, d9] }
  | _ => none }
def FnCoursePayExactWrongFalsely : Prop := fnCoursePayExactRow.holds Try.pinned (OpenSpec.ofChange fnCoursePayExactWrong)

end Rows
end Go.Proofs.Qxb6603765a
