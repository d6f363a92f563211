/-
  No cell of these rows narrows 'for every input' (looked for: loops, veiled, ifaces, maps, wideKeys, modest, calm, conditions, laid).
  DERIVED. THE GIVEN ROWS OF THIS SEAT. 3 by the template 'for every input the law returns true; each argument reads behind the call as it read before'; 0 by the template 'total and deterministic' (their statements: Qxb6617164aTotals.lean).
  GIVEN WITH THE SEED: the statements are not yours to turn. If you find one false, say at which input.
  Laid BY PROGRAM, IN A SANDBOX (cutbox-rows.mjs): the forced cells as the released guide's own fill.sh prints them over the translation 4d0790e3d8ff1737… (all of the seat's roots in one cut). By AI agents, Wed Nov 11 2026. No macro, syntax, notation, axiom, sorry.
-/
import Derived.Test.Qxb6617164aChecked
import GoSem.Claim
import GoSem.ClaimJoined
import GoSem.ClaimMapViews
import Derived.JoinedTies
import Derived.KernelRfl
namespace Go.Proofs.Qxb6617164a
/- THE CELL 'sum', in the pinned program and in every row, IS THE sha256 OF THE DUMP (.gsa) THAT Qxb6617164aProg.lean LOADS. Nothing in Lean hashes anything: it is a label: what it is worth is what the hold of that sum in a sandbox is worth. -/
noncomputable def Try.pinned : Pinned := { name := "qxb6617164a", sum := "4d0790e3d8ff1737f1cabab528f72e699bcf430766a750323c75467c3265326a", checked := Try.checked }
namespace Rows
def none {H : Type} : Left H := { results := [], args := [] }

/-- 'zzlaws_pkg_plan_b1.FnIsDigitsSplicedByte': WHATEVER THE INPUT: true; the input reads as it did. -/
def fnIsDigitsSplicedByteSpec : ChangeSpec := { name := "fnIsDigitsSplicedByte", fn := fun _ => fun
  | [d1, d2, d3, d4] => { results := [.lit (.bool true)], args := [d1, d2, d3, d4] }
  | _ => none }
def fnIsDigitsSplicedByteRow : OpenClaim := { program := "qxb6617164a", sum := "4d0790e3d8ff1737f1cabab528f72e699bcf430766a750323c75467c3265326a", func := "example.com/hourbook/hourbook/zzlaws_pkg_plan_b1.FnIsDigitsSplicedByte", spec := "fnIsDigitsSplicedByte", apart := false }
def FnIsDigitsSplicedByteSaid : Prop := fnIsDigitsSplicedByteRow.holds Try.pinned (OpenSpec.ofChange fnIsDigitsSplicedByteSpec)

/-- ITS FALSE NEIGHBOUR: 'it returns false'. Refute it at one input. -/
def fnIsDigitsSplicedByteWrong : ChangeSpec := { name := "fnIsDigitsSplicedByte", fn := fun _ => fun
  | [d1, d2, d3, d4] => { results := [.lit (.bool false)], args := [d1, d2, d3, d4] }
  | _ => none }
def FnIsDigitsSplicedByteWrongFalsely : Prop := fnIsDigitsSplicedByteRow.holds Try.pinned (OpenSpec.ofChange fnIsDigitsSplicedByteWrong)

/-- 'zzlaws_pkg_plan_b1.FnSectionsEqualAppend': WHATEVER THE INPUT: true; the input reads as it did. -/
def fnSectionsEqualAppendSpec : ChangeSpec := { name := "fnSectionsEqualAppend", fn := fun _ => fun
  | [d1, d2, d3, d4, d5, d6] => { results := [.lit (.bool true)], args := [d1, d2, d3, d4, d5, d6] }
  | _ => none }
def fnSectionsEqualAppendRow : OpenClaim := { program := "qxb6617164a", sum := "4d0790e3d8ff1737f1cabab528f72e699bcf430766a750323c75467c3265326a", func := "example.com/hourbook/hourbook/zzlaws_pkg_plan_b1.FnSectionsEqualAppend", spec := "fnSectionsEqualAppend", apart := false }
def FnSectionsEqualAppendSaid : Prop := fnSectionsEqualAppendRow.holds Try.pinned (OpenSpec.ofChange fnSectionsEqualAppendSpec)

/-- ITS FALSE NEIGHBOUR: 'it returns false'. Refute it at one input. -/
def fnSectionsEqualAppendWrong : ChangeSpec := { name := "fnSectionsEqualAppend", fn := fun _ => fun
  | [d1, d2, d3, d4, d5, d6] => { results := [.lit (.bool false)], args := [d1, d2, d3, d4, d5, d6] }
  | _ => none }
def FnSectionsEqualAppendWrongFalsely : Prop := fnSectionsEqualAppendRow.holds Try.pinned (OpenSpec.ofChange fnSectionsEqualAppendWrong)

/-- 'zzlaws_pkg_plan_b1.FnSectionsEqualCut': WHATEVER THE INPUT: true; the input reads as it did. -/
def fnSectionsEqualCutSpec : ChangeSpec := { name := "fnSectionsEqualCut", fn := fun _ => fun
  | [d1, d2, d3, d4, d5, d6] => { results := [.lit (.bool true)], args := [d1, d2, d3, d4, d5, d6] }
  | _ => none }
def fnSectionsEqualCutRow : OpenClaim := { program := "qxb6617164a", sum := "4d0790e3d8ff1737f1cabab528f72e699bcf430766a750323c75467c3265326a", func := "example.com/hourbook/hourbook/zzlaws_pkg_plan_b1.FnSectionsEqualCut", spec := "fnSectionsEqualCut", apart := false }
def FnSectionsEqualCutSaid : Prop := fnSectionsEqualCutRow.holds Try.pinned (OpenSpec.ofChange fnSectionsEqualCutSpec)

/-- ITS FALSE NEIGHBOUR: 'it returns false'. Refute it at one input. -/
def fnSectionsEqualCutWrong : ChangeSpec := { name := "fnSectionsEqualCut", fn := fun _ => fun
  | [d1, d2, d3, d4, d5, d6] => { results := [.lit (.bool false)], args := [d1, d2, d3, d4, d5, d6] }
  | _ => none }
def FnSectionsEqualCutWrongFalsely : Prop := fnSectionsEqualCutRow.holds Try.pinned (OpenSpec.ofChange fnSectionsEqualCutWrong)

end Rows
end Go.Proofs.Qxb6617164a
