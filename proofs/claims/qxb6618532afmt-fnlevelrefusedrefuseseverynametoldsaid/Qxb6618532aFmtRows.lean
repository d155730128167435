/-
  No cell of these rows narrows 'for every input' (looked for: loops, veiled, ifaces, maps, wideKeys, modest, calm, conditions, laid).
  DERIVED. THE GIVEN ROWS OF THIS SEAT. 1 by the template 'for every input the law returns true; each argument reads behind the call as it read before'; 0 by the template 'total and deterministic' (their statements: Qxb6618532aFmtTotals.lean).
  GIVEN WITH THE SEED: the statements are not yours to turn. If you find one false, say at which input.
  Laid BY PROGRAM, IN A SANDBOX (cutbox-rows.mjs): the forced cells as the released guide's own fill.sh prints them over the translation ad65eab052eb810f… (all of the seat's roots in one cut). By AI agents, Wed Nov 11 2026. No macro, syntax, notation, axiom, sorry.
-/
import Derived.Test.Qxb6618532aFmtChecked
import GoSem.Claim
import GoSem.ClaimJoined
import GoSem.ClaimMapViews
import Derived.JoinedTies
import Derived.KernelRfl
namespace Go.Proofs.Qxb6618532aFmt
/- THE CELL 'sum', in the pinned program and in every row, IS THE sha256 OF THE DUMP (.gsa) THAT Qxb6618532aFmtProg.lean LOADS. Nothing in Lean hashes anything: it is a label: what it is worth is what the hold of that sum in a sandbox is worth. -/
noncomputable def Tryf.pinned : Pinned := { name := "qxb6618532afmt", sum := "ad65eab052eb810fb4cdc8127dc75b381ecb3fd0f19ffcc03093a36186762236", checked := Tryf.checked }
namespace Rows
def none {H : Type} : Left H := { results := [], args := [] }

/-- 'zzlaws_templates_b1.FnLevelRefusedRefusesEveryName': WHATEVER THE INPUT: true; the input reads as it did. -/
def fnLevelRefusedRefusesEveryNameSpec : ChangeSpec := { name := "fnLevelRefusedRefusesEveryName", fn := fun _ => fun
  | [d] => { results := [.lit (.bool true)], args := [d] }
  | _ => none }
def fnLevelRefusedRefusesEveryNameRow : OpenClaim := { program := "qxb6618532afmt", sum := "ad65eab052eb810fb4cdc8127dc75b381ecb3fd0f19ffcc03093a36186762236", func := "example.com/isolane/isolane/zzlaws_templates_b1.FnLevelRefusedRefusesEveryName", spec := "fnLevelRefusedRefusesEveryName", stops := ["fmt.errorf"], inPlace := ["fmt.errorf"], apart := false }
/-- NO THEOREM (fmt's text is open here; it may be false): for the released tool's asking of the row's closed facts alone. THE STATEMENT IS 'FnLevelRefusedRefusesEveryNameToldSaid' (Qxb6618532aFmtCards.lean). -/
def FnLevelRefusedRefusesEveryNameFormAsk : Prop := fnLevelRefusedRefusesEveryNameRow.holds Tryf.pinned (OpenSpec.ofChange fnLevelRefusedRefusesEveryNameSpec)

/-- ITS FALSE NEIGHBOUR: 'it returns false'. Refute it at one input. -/
def fnLevelRefusedRefusesEveryNameWrong : ChangeSpec := { name := "fnLevelRefusedRefusesEveryName", fn := fun _ => fun
  | [d] => { results := [.lit (.bool false)], args := [d] }
  | _ => none }
def FnLevelRefusedRefusesEveryNameWrongFormAsk : Prop := fnLevelRefusedRefusesEveryNameRow.holds Tryf.pinned (OpenSpec.ofChange fnLevelRefusedRefusesEveryNameWrong)

end Rows
end Go.Proofs.Qxb6618532aFmt
