/-
  No cell of these rows narrows 'for every input' (looked for: loops, veiled, ifaces, maps, wideKeys, modest, calm, conditions, laid).
  DERIVED. THE GIVEN ROWS OF THIS SEAT. 2 by the template 'for every input the law returns true; each argument reads behind the call as it read before'; 0 by the template 'total and deterministic' (their statements: Qxb6617303aTotals.lean).
  GIVEN WITH THE SEED: the statements are not yours to turn. If you find one false, say at which input.
  Laid BY PROGRAM, IN A SANDBOX (cutbox-rows.mjs): the forced cells as the released guide's own fill.sh prints them over the translation 6b7bb49dd4d38dcc… (all of the seat's roots in one cut). By AI agents, Wed Nov 11 2026. No macro, syntax, notation, axiom, sorry.
-/
import Derived.Test.Qxb6617303aChecked
import GoSem.Claim
import GoSem.ClaimJoined
import GoSem.ClaimMapViews
import Derived.JoinedTies
import Derived.KernelRfl
namespace Go.Proofs.Qxb6617303a
/- THE CELL 'sum', in the pinned program and in every row, IS THE sha256 OF THE DUMP (.gsa) THAT Qxb6617303aProg.lean LOADS. Nothing in Lean hashes anything: it is a label: what it is worth is what the hold of that sum in a sandbox is worth. -/
noncomputable def Try.pinned : Pinned := { name := "qxb6617303a", sum := "6b7bb49dd4d38dcc90e02636f7dd503f161fa1637c4a411ac3846ca105a57019", checked := Try.checked }
namespace Rows
def none {H : Type} : Left H := { results := [], args := [] }

/-- 'zzlaws_internal_replica_b1.FnSpacesUnionAbsorbsItsPartsAndSharesNoSlice': WHATEVER THE INPUT: true; the input reads as it did. -/
def fnSpacesUnionAbsorbsItsPartsAndSharesNoSliceSpec : ChangeSpec := { name := "fnSpacesUnionAbsorbsItsPartsAndSharesNoSlice", fn := fun _ => fun
  | [d1, d2, d3, d4] => { results := [.lit (.bool true)], args := [d1, d2, d3, d4] }
  | _ => none }
def fnSpacesUnionAbsorbsItsPartsAndSharesNoSliceRow : OpenClaim := { program := "qxb6617303a", sum := "6b7bb49dd4d38dcc90e02636f7dd503f161fa1637c4a411ac3846ca105a57019", func := "example.com/precedent/precedent/zzlaws_internal_replica_b1.FnSpacesUnionAbsorbsItsPartsAndSharesNoSlice", spec := "fnSpacesUnionAbsorbsItsPartsAndSharesNoSlice", recurses := true, apart := false }
def FnSpacesUnionAbsorbsItsPartsAndSharesNoSliceSaid : Prop := fnSpacesUnionAbsorbsItsPartsAndSharesNoSliceRow.holds Try.pinned (OpenSpec.ofChange fnSpacesUnionAbsorbsItsPartsAndSharesNoSliceSpec)

/-- ITS FALSE NEIGHBOUR: 'it returns false'. Refute it at one input. -/
def fnSpacesUnionAbsorbsItsPartsAndSharesNoSliceWrong : ChangeSpec := { name := "fnSpacesUnionAbsorbsItsPartsAndSharesNoSlice", fn := fun _ => fun
  | [d1, d2, d3, d4] => { results := [.lit (.bool false)], args := [d1, d2, d3, d4] }
  | _ => none }
def FnSpacesUnionAbsorbsItsPartsAndSharesNoSliceWrongFalsely : Prop := fnSpacesUnionAbsorbsItsPartsAndSharesNoSliceRow.holds Try.pinned (OpenSpec.ofChange fnSpacesUnionAbsorbsItsPartsAndSharesNoSliceWrong)

/-- 'zzlaws_internal_replica_b1.FnSpacesUnionCommutesAndIsSetUnion': WHATEVER THE INPUT: true; the input reads as it did. -/
def fnSpacesUnionCommutesAndIsSetUnionSpec : ChangeSpec := { name := "fnSpacesUnionCommutesAndIsSetUnion", fn := fun _ => fun
  | [d1, d2, d3, d4] => { results := [.lit (.bool true)], args := [d1, d2, d3, d4] }
  | _ => none }
def fnSpacesUnionCommutesAndIsSetUnionRow : OpenClaim := { program := "qxb6617303a", sum := "6b7bb49dd4d38dcc90e02636f7dd503f161fa1637c4a411ac3846ca105a57019", func := "example.com/precedent/precedent/zzlaws_internal_replica_b1.FnSpacesUnionCommutesAndIsSetUnion", spec := "fnSpacesUnionCommutesAndIsSetUnion", recurses := true, apart := false }
def FnSpacesUnionCommutesAndIsSetUnionSaid : Prop := fnSpacesUnionCommutesAndIsSetUnionRow.holds Try.pinned (OpenSpec.ofChange fnSpacesUnionCommutesAndIsSetUnionSpec)

/-- ITS FALSE NEIGHBOUR: 'it returns false'. Refute it at one input. -/
def fnSpacesUnionCommutesAndIsSetUnionWrong : ChangeSpec := { name := "fnSpacesUnionCommutesAndIsSetUnion", fn := fun _ => fun
  | [d1, d2, d3, d4] => { results := [.lit (.bool false)], args := [d1, d2, d3, d4] }
  | _ => none }
def FnSpacesUnionCommutesAndIsSetUnionWrongFalsely : Prop := fnSpacesUnionCommutesAndIsSetUnionRow.holds Try.pinned (OpenSpec.ofChange fnSpacesUnionCommutesAndIsSetUnionWrong)

end Rows
end Go.Proofs.Qxb6617303a
