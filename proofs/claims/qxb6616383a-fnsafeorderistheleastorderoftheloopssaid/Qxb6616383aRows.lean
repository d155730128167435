/-
  No cell of these rows narrows 'for every input' (looked for: loops, veiled, ifaces, maps, wideKeys, modest, calm, conditions, laid).
  DERIVED. THE GIVEN ROWS OF THIS SEAT. 2 by the template 'for every input the law returns true; each argument reads behind the call as it read before'; 0 by the template 'total and deterministic' (their statements: Qxb6616383aTotals.lean).
  GIVEN WITH THE SEED: the statements are not yours to turn. If you find one false, say at which input.
  Laid BY PROGRAM, IN A SANDBOX (cutbox-rows.mjs): the forced cells as the released guide's own fill.sh prints them over the translation aa1a24332add24e0… (all of the seat's roots in one cut). By AI agents, Wed Nov 11 2026. No macro, syntax, notation, axiom, sorry.
-/
import Derived.Test.Qxb6616383aChecked
import GoSem.Claim
import GoSem.ClaimJoined
import GoSem.ClaimMapViews
import Derived.JoinedTies
import Derived.KernelRfl
namespace Go.Proofs.Qxb6616383a
/- THE CELL 'sum', in the pinned program and in every row, IS THE sha256 OF THE DUMP (.gsa) THAT Qxb6616383aProg.lean LOADS. Nothing in Lean hashes anything: it is a label: what it is worth is what the hold of that sum in a sandbox is worth. -/
noncomputable def Try.pinned : Pinned := { name := "qxb6616383a", sum := "aa1a24332add24e0fbedd049d5ba8cafb2205f6e3068cb56bd60eb002e8549d9", checked := Try.checked }
namespace Rows
def none {H : Type} : Left H := { results := [], args := [] }

/-- 'zzlaws_root_b1.FnSafeOrderIsTheLeastOrderOfTheLoops': WHATEVER THE INPUT: true; the input reads as it did. -/
def fnSafeOrderIsTheLeastOrderOfTheLoopsSpec : ChangeSpec := { name := "fnSafeOrderIsTheLeastOrderOfTheLoops", fn := fun _ => fun
  | [d1, d2, d3] => { results := [.lit (.bool true)], args := [d1, d2, d3] }
  | _ => none }
def fnSafeOrderIsTheLeastOrderOfTheLoopsRow : OpenClaim := { program := "qxb6616383a", sum := "aa1a24332add24e0fbedd049d5ba8cafb2205f6e3068cb56bd60eb002e8549d9", func := "example.com/statewright/statewright/zzlaws_root_b1.FnSafeOrderIsTheLeastOrderOfTheLoops", spec := "fnSafeOrderIsTheLeastOrderOfTheLoops", inPlace := ["internal/bytealg.abigen_runtime_cmpstring", "sync/atomic.LoadUint32", "(*internal/sync.Mutex).Lock", "internal/race.Disable", "sync/atomic.CompareAndSwapInt32", "internal/race.Enable", "internal/race.Acquire", "(*internal/sync.Mutex).lockSlow", "internal/sync.runtime_canSpin", "internal/sync.runtime_doSpin", "internal/sync.throw", "internal/sync.runtime_nanotime", "internal/sync.runtime_SemacquireMutex", "sync/atomic.AddInt32", "(*internal/sync.Mutex).Unlock", "internal/race.ReleaseMerge", "(*internal/sync.Mutex).unlockSlow", "internal/sync.fatal", "internal/sync.runtime_Semrelease", "sync/atomic.StoreUint32"], unfollowed := true, recurses := true, apart := false }
def FnSafeOrderIsTheLeastOrderOfTheLoopsSaid : Prop := fnSafeOrderIsTheLeastOrderOfTheLoopsRow.holds Try.pinned (OpenSpec.ofChange fnSafeOrderIsTheLeastOrderOfTheLoopsSpec)

/-- ITS FALSE NEIGHBOUR: 'it returns false'. Refute it at one input. -/
def fnSafeOrderIsTheLeastOrderOfTheLoopsWrong : ChangeSpec := { name := "fnSafeOrderIsTheLeastOrderOfTheLoops", fn := fun _ => fun
  | [d1, d2, d3] => { results := [.lit (.bool false)], args := [d1, d2, d3] }
  | _ => none }
def FnSafeOrderIsTheLeastOrderOfTheLoopsWrongFalsely : Prop := fnSafeOrderIsTheLeastOrderOfTheLoopsRow.holds Try.pinned (OpenSpec.ofChange fnSafeOrderIsTheLeastOrderOfTheLoopsWrong)

/-- 'zzlaws_root_b1.FnSafeOrderHangsOnTheEdgeSetAlone': WHATEVER THE INPUT: true; the input reads as it did. -/
def fnSafeOrderHangsOnTheEdgeSetAloneSpec : ChangeSpec := { name := "fnSafeOrderHangsOnTheEdgeSetAlone", fn := fun _ => fun
  | [d1, d2, d3] => { results := [.lit (.bool true)], args := [d1, d2, d3] }
  | _ => none }
def fnSafeOrderHangsOnTheEdgeSetAloneRow : OpenClaim := { program := "qxb6616383a", sum := "aa1a24332add24e0fbedd049d5ba8cafb2205f6e3068cb56bd60eb002e8549d9", func := "example.com/statewright/statewright/zzlaws_root_b1.FnSafeOrderHangsOnTheEdgeSetAlone", spec := "fnSafeOrderHangsOnTheEdgeSetAlone", inPlace := ["internal/bytealg.abigen_runtime_cmpstring", "sync/atomic.LoadUint32", "(*internal/sync.Mutex).Lock", "internal/race.Disable", "sync/atomic.CompareAndSwapInt32", "internal/race.Enable", "internal/race.Acquire", "(*internal/sync.Mutex).lockSlow", "internal/sync.runtime_canSpin", "internal/sync.runtime_doSpin", "internal/sync.throw", "internal/sync.runtime_nanotime", "internal/sync.runtime_SemacquireMutex", "sync/atomic.AddInt32", "(*internal/sync.Mutex).Unlock", "internal/race.ReleaseMerge", "(*internal/sync.Mutex).unlockSlow", "internal/sync.fatal", "internal/sync.runtime_Semrelease", "sync/atomic.StoreUint32"], unfollowed := true, recurses := true, apart := false }
def FnSafeOrderHangsOnTheEdgeSetAloneSaid : Prop := fnSafeOrderHangsOnTheEdgeSetAloneRow.holds Try.pinned (OpenSpec.ofChange fnSafeOrderHangsOnTheEdgeSetAloneSpec)

/-- ITS FALSE NEIGHBOUR: 'it returns false'. Refute it at one input. -/
def fnSafeOrderHangsOnTheEdgeSetAloneWrong : ChangeSpec := { name := "fnSafeOrderHangsOnTheEdgeSetAlone", fn := fun _ => fun
  | [d1, d2, d3] => { results := [.lit (.bool false)], args := [d1, d2, d3] }
  | _ => none }
def FnSafeOrderHangsOnTheEdgeSetAloneWrongFalsely : Prop := fnSafeOrderHangsOnTheEdgeSetAloneRow.holds Try.pinned (OpenSpec.ofChange fnSafeOrderHangsOnTheEdgeSetAloneWrong)

end Rows
end Go.Proofs.Qxb6616383a
