/-
  No cell of these rows narrows 'for every input' (looked for: loops, veiled, ifaces, maps, wideKeys, modest, calm, conditions, laid).
  DERIVED. THE GIVEN ROWS OF THIS SEAT. 4 by the template 'for every input the law returns true; each argument reads behind the call as it read before'; 0 by the template 'total and deterministic' (their statements: Qxb6603585aTotals.lean).
  GIVEN WITH THE SEED: the statements are not yours to turn. If you find one false, say at which input.
  Laid BY PROGRAM, IN A SANDBOX (cutbox-rows.mjs): the forced cells as the released guide's own fill.sh prints them over the translation c48c463d97479fe8… (all of the seat's roots in one cut). By AI agents, Wed Nov 11 2026. No macro, syntax, notation, axiom, sorry.
-/
import Derived.Test.Qxb6603585aChecked
import GoSem.Claim
import GoSem.ClaimJoined
import GoSem.ClaimMapViews
import Derived.JoinedTies
import Derived.KernelRfl
namespace Go.Proofs.Qxb6603585a
/- THE CELL 'sum', in the pinned program and in every row, IS THE sha256 OF THE DUMP (.gsa) THAT Qxb6603585aProg.lean LOADS. Nothing in Lean hashes anything: it is a label: what it is worth is what the hold of that sum in a sandbox is worth. -/
noncomputable def Try.pinned : Pinned := { name := "qxb6603585a", sum := "c48c463d97479fe85bb6d7b442e8f873b8a564b5a6aefcb2cb42dcea9d77f276", checked := Try.checked }
namespace Rows
def none {H : Type} : Left H := { results := [], args := [] }

/-- 'zzlaws_protocol_b1.FnCheckFailsOnceAnyErrorCameAndStays': WHATEVER THE INPUT: true; the input reads as it did. -/
def fnCheckFailsOnceAnyErrorCameAndStaysSpec : ChangeSpec := { name := "fnCheckFailsOnceAnyErrorCameAndStays", fn := fun _ => fun
  | [d1, d2, d3, d4, d5] => { results := [.lit (.bool true)], args := [d1, d2, d3, d4, d5] }
  | _ => none }
def fnCheckFailsOnceAnyErrorCameAndStaysRow : OpenClaim := { program := "qxb6603585a", sum := "c48c463d97479fe85bb6d7b442e8f873b8a564b5a6aefcb2cb42dcea9d77f276", func := "example.com/sealwright/sealwright/zzlaws_protocol_b1.FnCheckFailsOnceAnyErrorCameAndStays", spec := "fnCheckFailsOnceAnyErrorCameAndStays", apart := false }
def FnCheckFailsOnceAnyErrorCameAndStaysSaid : Prop := fnCheckFailsOnceAnyErrorCameAndStaysRow.holds Try.pinned (OpenSpec.ofChange fnCheckFailsOnceAnyErrorCameAndStaysSpec)

/-- ITS FALSE NEIGHBOUR: 'it returns false'. Refute it at one input. -/
def fnCheckFailsOnceAnyErrorCameAndStaysWrong : ChangeSpec := { name := "fnCheckFailsOnceAnyErrorCameAndStays", fn := fun _ => fun
  | [d1, d2, d3, d4, d5] => { results := [.lit (.bool false)], args := [d1, d2, d3, d4, d5] }
  | _ => none }
def FnCheckFailsOnceAnyErrorCameAndStaysWrongFalsely : Prop := fnCheckFailsOnceAnyErrorCameAndStaysRow.holds Try.pinned (OpenSpec.ofChange fnCheckFailsOnceAnyErrorCameAndStaysWrong)

/-- 'zzlaws_protocol_b1.FnCheckHoldsBadRequestNotTheErrorHanded': WHATEVER THE INPUT: true; the input reads as it did. -/
def fnCheckHoldsBadRequestNotTheErrorHandedSpec : ChangeSpec := { name := "fnCheckHoldsBadRequestNotTheErrorHanded", fn := fun _ => fun
  | [d1, d2, d3, d4, d5] => { results := [.lit (.bool true)], args := [d1, d2, d3, d4, d5] }
  | _ => none }
def fnCheckHoldsBadRequestNotTheErrorHandedRow : OpenClaim := { program := "qxb6603585a", sum := "c48c463d97479fe85bb6d7b442e8f873b8a564b5a6aefcb2cb42dcea9d77f276", func := "example.com/sealwright/sealwright/zzlaws_protocol_b1.FnCheckHoldsBadRequestNotTheErrorHanded", spec := "fnCheckHoldsBadRequestNotTheErrorHanded", apart := false }
def FnCheckHoldsBadRequestNotTheErrorHandedSaid : Prop := fnCheckHoldsBadRequestNotTheErrorHandedRow.holds Try.pinned (OpenSpec.ofChange fnCheckHoldsBadRequestNotTheErrorHandedSpec)

/-- ITS FALSE NEIGHBOUR: 'it returns false'. Refute it at one input. -/
def fnCheckHoldsBadRequestNotTheErrorHandedWrong : ChangeSpec := { name := "fnCheckHoldsBadRequestNotTheErrorHanded", fn := fun _ => fun
  | [d1, d2, d3, d4, d5] => { results := [.lit (.bool false)], args := [d1, d2, d3, d4, d5] }
  | _ => none }
def FnCheckHoldsBadRequestNotTheErrorHandedWrongFalsely : Prop := fnCheckHoldsBadRequestNotTheErrorHandedRow.holds Try.pinned (OpenSpec.ofChange fnCheckHoldsBadRequestNotTheErrorHandedWrong)

/-- 'zzlaws_protocol_b1.FnAppendHeadIsDstThenIdOkMap': WHATEVER THE INPUT: true; the input reads as it did. -/
def fnAppendHeadIsDstThenIdOkMapSpec : ChangeSpec := { name := "fnAppendHeadIsDstThenIdOkMap", fn := fun _ => fun
  | [d1, d2, d3] => { results := [.lit (.bool true)], args := [d1, d2, d3] }
  | _ => none }
def fnAppendHeadIsDstThenIdOkMapRow : OpenClaim := { program := "qxb6603585a", sum := "c48c463d97479fe85bb6d7b442e8f873b8a564b5a6aefcb2cb42dcea9d77f276", func := "example.com/sealwright/sealwright/zzlaws_protocol_b1.FnAppendHeadIsDstThenIdOkMap", spec := "fnAppendHeadIsDstThenIdOkMap", named := ["encoding/binary.BigEndian"], apart := false }
def FnAppendHeadIsDstThenIdOkMapSaid : Prop := fnAppendHeadIsDstThenIdOkMapRow.holds Try.pinned (OpenSpec.ofChange fnAppendHeadIsDstThenIdOkMapSpec)

/-- ITS FALSE NEIGHBOUR: 'it returns false'. Refute it at one input. -/
def fnAppendHeadIsDstThenIdOkMapWrong : ChangeSpec := { name := "fnAppendHeadIsDstThenIdOkMap", fn := fun _ => fun
  | [d1, d2, d3] => { results := [.lit (.bool false)], args := [d1, d2, d3] }
  | _ => none }
def FnAppendHeadIsDstThenIdOkMapWrongFalsely : Prop := fnAppendHeadIsDstThenIdOkMapRow.holds Try.pinned (OpenSpec.ofChange fnAppendHeadIsDstThenIdOkMapWrong)

/-- 'zzlaws_protocol_b1.FnAppendHeadExtendsDstByItsOwnHead': WHATEVER THE INPUT: true; the input reads as it did. -/
def fnAppendHeadExtendsDstByItsOwnHeadSpec : ChangeSpec := { name := "fnAppendHeadExtendsDstByItsOwnHead", fn := fun _ => fun
  | [d1, d2, d3] => { results := [.lit (.bool true)], args := [d1, d2, d3] }
  | _ => none }
def fnAppendHeadExtendsDstByItsOwnHeadRow : OpenClaim := { program := "qxb6603585a", sum := "c48c463d97479fe85bb6d7b442e8f873b8a564b5a6aefcb2cb42dcea9d77f276", func := "example.com/sealwright/sealwright/zzlaws_protocol_b1.FnAppendHeadExtendsDstByItsOwnHead", spec := "fnAppendHeadExtendsDstByItsOwnHead", named := ["encoding/binary.BigEndian"], apart := false }
def FnAppendHeadExtendsDstByItsOwnHeadSaid : Prop := fnAppendHeadExtendsDstByItsOwnHeadRow.holds Try.pinned (OpenSpec.ofChange fnAppendHeadExtendsDstByItsOwnHeadSpec)

/-- ITS FALSE NEIGHBOUR: 'it returns false'. Refute it at one input. -/
def fnAppendHeadExtendsDstByItsOwnHeadWrong : ChangeSpec := { name := "fnAppendHeadExtendsDstByItsOwnHead", fn := fun _ => fun
  | [d1, d2, d3] => { results := [.lit (.bool false)], args := [d1, d2, d3] }
  | _ => none }
def FnAppendHeadExtendsDstByItsOwnHeadWrongFalsely : Prop := fnAppendHeadExtendsDstByItsOwnHeadRow.holds Try.pinned (OpenSpec.ofChange fnAppendHeadExtendsDstByItsOwnHeadWrong)

end Rows
end Go.Proofs.Qxb6603585a
