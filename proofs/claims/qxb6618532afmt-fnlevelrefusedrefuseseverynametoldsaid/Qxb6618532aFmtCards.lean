/-
  DERIVED. GIVEN WITH THE SEED: THE CARDS: each row of Qxb6618532aFmtRows.lean that lists a variable, with what it lists TIED to the program's text (the seventh form; the later family's looks); each row that meets fmt, with fmt's text TOLD by the authors' own Lean function (tested against real Go, not proved from fmt's source: count such statements apart). THE CARD IS WHAT COUNTS. Prove the row's statement (the work); the ties are given (Qxb6618532aFmtTie.lean); close each card by the builder's one call (the guide's Derived/Test/ToyasCard.lean, 'card_holds'). Laid BY PROGRAM, IN A SANDBOX (cutbox-door.mjs). By AI agents, Wed Nov 11 2026. No macro, syntax, notation, axiom, sorry.
-/
import Derived.Test.Qxb6618532aFmtRows
import GoSem.ClaimSeven
namespace Go.Proofs.Qxb6618532aFmt
namespace Rows

/-- THE TOLD CARD OF 'zzlaws_templates_b1.FnLevelRefusedRefusesEveryName'. -/
def fnLevelRefusedRefusesEveryNameCard : Claim7 := { stood := { row := fnLevelRefusedRefusesEveryNameRow, standIns := [], harness := (true, "a13c41d404cc3c63b039c56ce17dd81f6aa85359af7406427caa8bf9595d5334"), looks := false }, told := true, goes := false }
def FnLevelRefusedRefusesEveryNameToldSaid : Prop := Claim7.holds Tryf.pinned (.plain (OpenSpec.ofChange fnLevelRefusedRefusesEveryNameSpec)) fnLevelRefusedRefusesEveryNameCard
/-- ITS FALSE NEIGHBOUR. Refute it at one input. -/
def FnLevelRefusedRefusesEveryNameToldWrongFalsely : Prop := Claim7.holds Tryf.pinned (.plain (OpenSpec.ofChange fnLevelRefusedRefusesEveryNameWrong)) fnLevelRefusedRefusesEveryNameCard
end Rows
end Go.Proofs.Qxb6618532aFmt
