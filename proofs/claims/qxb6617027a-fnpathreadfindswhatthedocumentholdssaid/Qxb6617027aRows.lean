/-
  No cell of these rows narrows 'for every input' (looked for: loops, veiled, ifaces, maps, wideKeys, modest, calm, conditions, laid).
  DERIVED. THE GIVEN ROWS OF THIS SEAT. 1 by the template 'for every input the law returns true; each argument reads behind the call as it read before'; 0 by the template 'total and deterministic' (their statements: Qxb6617027aTotals.lean).
  GIVEN WITH THE SEED: the statements are not yours to turn. If you find one false, say at which input.
  Laid BY PROGRAM, IN A SANDBOX (cutbox-rows.mjs): the forced cells as the released guide's own fill.sh prints them over the translation 0c64775d4a5f3e24… (all of the seat's roots in one cut). By AI agents, Wed Nov 11 2026. No macro, syntax, notation, axiom, sorry.
-/
import Derived.Test.Qxb6617027aChecked
import GoSem.Claim
import GoSem.ClaimJoined
import GoSem.ClaimMapViews
import Derived.JoinedTies
import Derived.KernelRfl
namespace Go.Proofs.Qxb6617027a
/- THE CELL 'sum', in the pinned program and in every row, IS THE sha256 OF THE DUMP (.gsa) THAT Qxb6617027aProg.lean LOADS. Nothing in Lean hashes anything: it is a label: what it is worth is what the hold of that sum in a sandbox is worth. -/
noncomputable def Try.pinned : Pinned := { name := "qxb6617027a", sum := "0c64775d4a5f3e24584a1daa95b89901bd32bebbe3d044c0b3e40e88caf5f361", checked := Try.checked }
namespace Rows
def none {H : Type} : Left H := { results := [], args := [] }

/-- 'zzlaws_root_b1.FnPathReadFindsWhatTheDocumentHolds': WHATEVER THE INPUT: true; the input reads as it did. -/
def fnPathReadFindsWhatTheDocumentHoldsSpec : ChangeSpec := { name := "fnPathReadFindsWhatTheDocumentHolds", fn := fun _ => fun
  | [d1, d2, d3, d4, d5, d6, d7, d8, d9, d10, d11, d12] => { results := [.lit (.bool true)], args := [d1, d2, d3, d4, d5, d6, d7, d8, d9, d10, d11, d12] }
  | _ => none }
def fnPathReadFindsWhatTheDocumentHoldsRow : OpenClaim := { program := "qxb6617027a", sum := "0c64775d4a5f3e24584a1daa95b89901bd32bebbe3d044c0b3e40e88caf5f361", func := "example.com/bounded-grant/bounded-grant/zzlaws_root_b1.FnPathReadFindsWhatTheDocumentHolds", spec := "fnPathReadFindsWhatTheDocumentHolds", apart := false }
def FnPathReadFindsWhatTheDocumentHoldsSaid : Prop := fnPathReadFindsWhatTheDocumentHoldsRow.holds Try.pinned (OpenSpec.ofChange fnPathReadFindsWhatTheDocumentHoldsSpec)

/-- ITS FALSE NEIGHBOUR: 'it returns false'. Refute it at one input. -/
def fnPathReadFindsWhatTheDocumentHoldsWrong : ChangeSpec := { name := "fnPathReadFindsWhatTheDocumentHolds", fn := fun _ => fun
  | [d1, d2, d3, d4, d5, d6, d7, d8, d9, d10, d11, d12] => { results := [.lit (.bool false)], args := [d1, d2, d3, d4, d5, d6, d7, d8, d9, d10, d11, d12] }
  | _ => none }
def FnPathReadFindsWhatTheDocumentHoldsWrongFalsely : Prop := fnPathReadFindsWhatTheDocumentHoldsRow.holds Try.pinned (OpenSpec.ofChange fnPathReadFindsWhatTheDocumentHoldsWrong)

end Rows
end Go.Proofs.Qxb6617027a
