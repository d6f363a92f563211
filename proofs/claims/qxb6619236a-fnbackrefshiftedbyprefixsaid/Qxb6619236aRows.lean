/-
  No cell of these rows narrows 'for every input' (looked for: loops, veiled, ifaces, maps, wideKeys, modest, calm, conditions, laid).
  DERIVED. THE GIVEN ROWS OF THIS SEAT. 2 by the template 'for every input the law returns true; each argument reads behind the call as it read before'; 0 by the template 'total and deterministic' (their statements: Qxb6619236aTotals.lean).
  GIVEN WITH THE SEED: the statements are not yours to turn. If you find one false, say at which input.
  Laid BY PROGRAM, IN A SANDBOX (cutbox-rows.mjs): the forced cells as the released guide's own fill.sh prints them over the translation f8bdef95633b194d… (all of the seat's roots in one cut). By AI agents, Wed Nov 11 2026. No macro, syntax, notation, axiom, sorry.
-/
import Derived.Test.Qxb6619236aChecked
import GoSem.Claim
import GoSem.ClaimJoined
import GoSem.ClaimMapViews
import Derived.JoinedTies
import Derived.KernelRfl
namespace Go.Proofs.Qxb6619236a
/- THE CELL 'sum', in the pinned program and in every row, IS THE sha256 OF THE DUMP (.gsa) THAT Qxb6619236aProg.lean LOADS. Nothing in Lean hashes anything: it is a label: what it is worth is what the hold of that sum in a sandbox is worth. -/
noncomputable def Try.pinned : Pinned := { name := "qxb6619236a", sum := "f8bdef95633b194d7847e5b7f5f8cced468d36ccd66441fe6097b06a9a28b0f6", checked := Try.checked }
namespace Rows
def none {H : Type} : Left H := { results := [], args := [] }

/-- 'zzlaws_demangle_b1.FnBackrefSpec': WHATEVER THE INPUT: true; the input reads as it did. -/
def fnBackrefSpecSpec : ChangeSpec := { name := "fnBackrefSpec", fn := fun _ => fun
  | [d1, d2] => { results := [.lit (.bool true)], args := [d1, d2] }
  | _ => none }
def fnBackrefSpecRow : OpenClaim := { program := "qxb6619236a", sum := "f8bdef95633b194d7847e5b7f5f8cced468d36ccd66441fe6097b06a9a28b0f6", func := "example.com/stackglass/stackglass/zzlaws_demangle_b1.FnBackrefSpec", spec := "fnBackrefSpec", apart := false }
def FnBackrefSpecSaid : Prop := fnBackrefSpecRow.holds Try.pinned (OpenSpec.ofChange fnBackrefSpecSpec)

/-- ITS FALSE NEIGHBOUR: 'it returns false'. Refute it at one input. -/
def fnBackrefSpecWrong : ChangeSpec := { name := "fnBackrefSpec", fn := fun _ => fun
  | [d1, d2] => { results := [.lit (.bool false)], args := [d1, d2] }
  | _ => none }
def FnBackrefSpecWrongFalsely : Prop := fnBackrefSpecRow.holds Try.pinned (OpenSpec.ofChange fnBackrefSpecWrong)

/-- 'zzlaws_demangle_b1.FnBackrefShiftedByPrefix': WHATEVER THE INPUT: true; the input reads as it did. -/
def fnBackrefShiftedByPrefixSpec : ChangeSpec := { name := "fnBackrefShiftedByPrefix", fn := fun _ => fun
  | [d1, d2, d3] => { results := [.lit (.bool true)], args := [d1, d2, d3] }
  | _ => none }
def fnBackrefShiftedByPrefixRow : OpenClaim := { program := "qxb6619236a", sum := "f8bdef95633b194d7847e5b7f5f8cced468d36ccd66441fe6097b06a9a28b0f6", func := "example.com/stackglass/stackglass/zzlaws_demangle_b1.FnBackrefShiftedByPrefix", spec := "fnBackrefShiftedByPrefix", apart := false }
def FnBackrefShiftedByPrefixSaid : Prop := fnBackrefShiftedByPrefixRow.holds Try.pinned (OpenSpec.ofChange fnBackrefShiftedByPrefixSpec)

/-- ITS FALSE NEIGHBOUR: 'it returns false'. Refute it at one input. -/
def fnBackrefShiftedByPrefixWrong : ChangeSpec := { name := "fnBackrefShiftedByPrefix", fn := fun _ => fun
  | [d1, d2, d3] => { results := [.lit (.bool false)], args := [d1, d2, d3] }
  | _ => none }
def FnBackrefShiftedByPrefixWrongFalsely : Prop := fnBackrefShiftedByPrefixRow.holds Try.pinned (OpenSpec.ofChange fnBackrefShiftedByPrefixWrong)

end Rows
end Go.Proofs.Qxb6619236a
