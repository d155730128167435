/-
  No cell of these rows narrows 'for every input' (looked for: loops, veiled, ifaces, maps, wideKeys, modest, calm, conditions, laid).
  DERIVED. THE GIVEN ROWS OF THIS SEAT. 1 by the template 'for every input the law returns true; each argument reads behind the call as it read before'; 0 by the template 'total and deterministic' (their statements: Qxb6616877aTotals.lean).
  GIVEN WITH THE SEED: the statements are not yours to turn. If you find one false, say at which input.
  Laid BY PROGRAM, IN A SANDBOX (cutbox-rows.mjs): the forced cells as the released guide's own fill.sh prints them over the translation 80a9f76a3c5ccc45… (all of the seat's roots in one cut). By AI agents, Wed Nov 11 2026. No macro, syntax, notation, axiom, sorry.
-/
import Derived.Test.Qxb6616877aChecked
import GoSem.Claim
import GoSem.ClaimJoined
import GoSem.ClaimMapViews
import Derived.JoinedTies
import Derived.KernelRfl
namespace Go.Proofs.Qxb6616877a
/- THE CELL 'sum', in the pinned program and in every row, IS THE sha256 OF THE DUMP (.gsa) THAT Qxb6616877aProg.lean LOADS. Nothing in Lean hashes anything: it is a label: what it is worth is what the hold of that sum in a sandbox is worth. -/
noncomputable def Try.pinned : Pinned := { name := "qxb6616877a", sum := "80a9f76a3c5ccc455a1b80466064b4f7b20e76302f4e9577e80d9928082a700f", checked := Try.checked }
namespace Rows
def none {H : Type} : Left H := { results := [], args := [] }

/-- 'zzlaws_root_b1.FnSerialCompareIsSignOfDifference': WHATEVER THE INPUT: true; the input reads as it did. -/
def fnSerialCompareIsSignOfDifferenceSpec : ChangeSpec := { name := "fnSerialCompareIsSignOfDifference", fn := fun _ => fun
  | [d1, d2] => { results := [.lit (.bool true)], args := [d1, d2] }
  | _ => none }
def fnSerialCompareIsSignOfDifferenceRow : OpenClaim := { program := "qxb6616877a", sum := "80a9f76a3c5ccc455a1b80466064b4f7b20e76302f4e9577e80d9928082a700f", func := "example.com/proofleaf/proofleaf/zzlaws_root_b1.FnSerialCompareIsSignOfDifference", spec := "fnSerialCompareIsSignOfDifference", inPlace := ["internal/bytealg.Compare"], apart := false }
def FnSerialCompareIsSignOfDifferenceSaid : Prop := fnSerialCompareIsSignOfDifferenceRow.holds Try.pinned (OpenSpec.ofChange fnSerialCompareIsSignOfDifferenceSpec)

/-- ITS FALSE NEIGHBOUR: 'it returns false'. Refute it at one input. -/
def fnSerialCompareIsSignOfDifferenceWrong : ChangeSpec := { name := "fnSerialCompareIsSignOfDifference", fn := fun _ => fun
  | [d1, d2] => { results := [.lit (.bool false)], args := [d1, d2] }
  | _ => none }
def FnSerialCompareIsSignOfDifferenceWrongFalsely : Prop := fnSerialCompareIsSignOfDifferenceRow.holds Try.pinned (OpenSpec.ofChange fnSerialCompareIsSignOfDifferenceWrong)

end Rows
end Go.Proofs.Qxb6616877a
