/-
  No cell of these rows narrows 'for every input' (looked for: loops, veiled, ifaces, maps, wideKeys, modest, calm, conditions, laid).
  DERIVED. THE GIVEN ROWS OF THIS SEAT. 4 by the template 'for every input the law returns true; each argument reads behind the call as it read before'; 0 by the template 'total and deterministic' (their statements: Qxb6616464aTotals.lean).
  GIVEN WITH THE SEED: the statements are not yours to turn. If you find one false, say at which input.
  Laid BY PROGRAM, IN A SANDBOX (cutbox-rows.mjs): the forced cells as the released guide's own fill.sh prints them over the translation c2fc24373d424f00… (all of the seat's roots in one cut). By AI agents, Wed Nov 11 2026. No macro, syntax, notation, axiom, sorry.
-/
import Derived.Test.Qxb6616464aChecked
import GoSem.Claim
import GoSem.ClaimJoined
import GoSem.ClaimMapViews
import Derived.JoinedTies
import Derived.KernelRfl
namespace Go.Proofs.Qxb6616464a
/- THE CELL 'sum', in the pinned program and in every row, IS THE sha256 OF THE DUMP (.gsa) THAT Qxb6616464aProg.lean LOADS. Nothing in Lean hashes anything: it is a label: what it is worth is what the hold of that sum in a sandbox is worth. -/
noncomputable def Try.pinned : Pinned := { name := "qxb6616464a", sum := "c2fc24373d424f002a112ed60c1d52ff373cfa8adb9895480fd57d801aaf0fdf", checked := Try.checked }
namespace Rows
def none {H : Type} : Left H := { results := [], args := [] }

/-- 'zzlaws_internal_terminal_b1.FnFirstOfIsTheCharacterPrefixAtAnyCut': WHATEVER THE INPUT: true; the input reads as it did. -/
def fnFirstOfIsTheCharacterPrefixAtAnyCutSpec : ChangeSpec := { name := "fnFirstOfIsTheCharacterPrefixAtAnyCut", fn := fun _ => fun
  | [d1, d2] => { results := [.lit (.bool true)], args := [d1, d2] }
  | _ => none }
def fnFirstOfIsTheCharacterPrefixAtAnyCutRow : OpenClaim := { program := "qxb6616464a", sum := "c2fc24373d424f002a112ed60c1d52ff373cfa8adb9895480fd57d801aaf0fdf", func := "example.com/parlorkeep/parlorkeep/zzlaws_internal_terminal_b1.FnFirstOfIsTheCharacterPrefixAtAnyCut", spec := "fnFirstOfIsTheCharacterPrefixAtAnyCut", apart := false }
def FnFirstOfIsTheCharacterPrefixAtAnyCutSaid : Prop := fnFirstOfIsTheCharacterPrefixAtAnyCutRow.holds Try.pinned (OpenSpec.ofChange fnFirstOfIsTheCharacterPrefixAtAnyCutSpec)

/-- ITS FALSE NEIGHBOUR: 'it returns false'. Refute it at one input. -/
def fnFirstOfIsTheCharacterPrefixAtAnyCutWrong : ChangeSpec := { name := "fnFirstOfIsTheCharacterPrefixAtAnyCut", fn := fun _ => fun
  | [d1, d2] => { results := [.lit (.bool false)], args := [d1, d2] }
  | _ => none }
def FnFirstOfIsTheCharacterPrefixAtAnyCutWrongFalsely : Prop := fnFirstOfIsTheCharacterPrefixAtAnyCutRow.holds Try.pinned (OpenSpec.ofChange fnFirstOfIsTheCharacterPrefixAtAnyCutWrong)

/-- 'zzlaws_internal_terminal_b1.FnFirstOfIgnoresAnyTailOfValidText': WHATEVER THE INPUT: true; the input reads as it did. -/
def fnFirstOfIgnoresAnyTailOfValidTextSpec : ChangeSpec := { name := "fnFirstOfIgnoresAnyTailOfValidText", fn := fun _ => fun
  | [d1, d2] => { results := [.lit (.bool true)], args := [d1, d2] }
  | _ => none }
def fnFirstOfIgnoresAnyTailOfValidTextRow : OpenClaim := { program := "qxb6616464a", sum := "c2fc24373d424f002a112ed60c1d52ff373cfa8adb9895480fd57d801aaf0fdf", func := "example.com/parlorkeep/parlorkeep/zzlaws_internal_terminal_b1.FnFirstOfIgnoresAnyTailOfValidText", spec := "fnFirstOfIgnoresAnyTailOfValidText", apart := false }
def FnFirstOfIgnoresAnyTailOfValidTextSaid : Prop := fnFirstOfIgnoresAnyTailOfValidTextRow.holds Try.pinned (OpenSpec.ofChange fnFirstOfIgnoresAnyTailOfValidTextSpec)

/-- ITS FALSE NEIGHBOUR: 'it returns false'. Refute it at one input. -/
def fnFirstOfIgnoresAnyTailOfValidTextWrong : ChangeSpec := { name := "fnFirstOfIgnoresAnyTailOfValidText", fn := fun _ => fun
  | [d1, d2] => { results := [.lit (.bool false)], args := [d1, d2] }
  | _ => none }
def FnFirstOfIgnoresAnyTailOfValidTextWrongFalsely : Prop := fnFirstOfIgnoresAnyTailOfValidTextRow.holds Try.pinned (OpenSpec.ofChange fnFirstOfIgnoresAnyTailOfValidTextWrong)

/-- 'zzlaws_internal_terminal_b1.FnOneLineJoinsAtAnyCutAndEscapesEachBreak': WHATEVER THE INPUT: true; the input reads as it did. -/
def fnOneLineJoinsAtAnyCutAndEscapesEachBreakSpec : ChangeSpec := { name := "fnOneLineJoinsAtAnyCutAndEscapesEachBreak", fn := fun _ => fun
  | [d1, d2] => { results := [.lit (.bool true)], args := [d1, d2] }
  | _ => none }
def fnOneLineJoinsAtAnyCutAndEscapesEachBreakRow : OpenClaim := { program := "qxb6616464a", sum := "c2fc24373d424f002a112ed60c1d52ff373cfa8adb9895480fd57d801aaf0fdf", func := "example.com/parlorkeep/parlorkeep/zzlaws_internal_terminal_b1.FnOneLineJoinsAtAnyCutAndEscapesEachBreak", spec := "fnOneLineJoinsAtAnyCutAndEscapesEachBreak", inPlace := ["sync/atomic.LoadUint32", "(*internal/sync.Mutex).Lock", "internal/race.Disable", "sync/atomic.CompareAndSwapInt32", "internal/race.Enable", "internal/race.Acquire", "(*internal/sync.Mutex).lockSlow", "internal/sync.runtime_canSpin", "internal/sync.runtime_doSpin", "internal/sync.throw", "internal/sync.runtime_nanotime", "internal/sync.runtime_SemacquireMutex", "sync/atomic.AddInt32", "(*internal/sync.Mutex).Unlock", "internal/race.ReleaseMerge", "(*internal/sync.Mutex).unlockSlow", "internal/sync.fatal", "internal/sync.runtime_Semrelease", "sync/atomic.StoreUint32"], unfollowed := true, recurses := true, apart := false }
def FnOneLineJoinsAtAnyCutAndEscapesEachBreakSaid : Prop := fnOneLineJoinsAtAnyCutAndEscapesEachBreakRow.holds Try.pinned (OpenSpec.ofChange fnOneLineJoinsAtAnyCutAndEscapesEachBreakSpec)

/-- ITS FALSE NEIGHBOUR: 'it returns false'. Refute it at one input. -/
def fnOneLineJoinsAtAnyCutAndEscapesEachBreakWrong : ChangeSpec := { name := "fnOneLineJoinsAtAnyCutAndEscapesEachBreak", fn := fun _ => fun
  | [d1, d2] => { results := [.lit (.bool false)], args := [d1, d2] }
  | _ => none }
def FnOneLineJoinsAtAnyCutAndEscapesEachBreakWrongFalsely : Prop := fnOneLineJoinsAtAnyCutAndEscapesEachBreakRow.holds Try.pinned (OpenSpec.ofChange fnOneLineJoinsAtAnyCutAndEscapesEachBreakWrong)

/-- 'zzlaws_internal_terminal_b1.FnOneLineIsSettledAndKeepsPlainText': WHATEVER THE INPUT: true; the input reads as it did. -/
def fnOneLineIsSettledAndKeepsPlainTextSpec : ChangeSpec := { name := "fnOneLineIsSettledAndKeepsPlainText", fn := fun _ => fun
  | [d] => { results := [.lit (.bool true)], args := [d] }
  | _ => none }
def fnOneLineIsSettledAndKeepsPlainTextRow : OpenClaim := { program := "qxb6616464a", sum := "c2fc24373d424f002a112ed60c1d52ff373cfa8adb9895480fd57d801aaf0fdf", func := "example.com/parlorkeep/parlorkeep/zzlaws_internal_terminal_b1.FnOneLineIsSettledAndKeepsPlainText", spec := "fnOneLineIsSettledAndKeepsPlainText", inPlace := ["sync/atomic.LoadUint32", "(*internal/sync.Mutex).Lock", "internal/race.Disable", "sync/atomic.CompareAndSwapInt32", "internal/race.Enable", "internal/race.Acquire", "(*internal/sync.Mutex).lockSlow", "internal/sync.runtime_canSpin", "internal/sync.runtime_doSpin", "internal/sync.throw", "internal/sync.runtime_nanotime", "internal/sync.runtime_SemacquireMutex", "sync/atomic.AddInt32", "(*internal/sync.Mutex).Unlock", "internal/race.ReleaseMerge", "(*internal/sync.Mutex).unlockSlow", "internal/sync.fatal", "internal/sync.runtime_Semrelease", "sync/atomic.StoreUint32"], unfollowed := true, recurses := true, apart := false }
def FnOneLineIsSettledAndKeepsPlainTextSaid : Prop := fnOneLineIsSettledAndKeepsPlainTextRow.holds Try.pinned (OpenSpec.ofChange fnOneLineIsSettledAndKeepsPlainTextSpec)

/-- ITS FALSE NEIGHBOUR: 'it returns false'. Refute it at one input. -/
def fnOneLineIsSettledAndKeepsPlainTextWrong : ChangeSpec := { name := "fnOneLineIsSettledAndKeepsPlainText", fn := fun _ => fun
  | [d] => { results := [.lit (.bool false)], args := [d] }
  | _ => none }
def FnOneLineIsSettledAndKeepsPlainTextWrongFalsely : Prop := fnOneLineIsSettledAndKeepsPlainTextRow.holds Try.pinned (OpenSpec.ofChange fnOneLineIsSettledAndKeepsPlainTextWrong)

end Rows
end Go.Proofs.Qxb6616464a
