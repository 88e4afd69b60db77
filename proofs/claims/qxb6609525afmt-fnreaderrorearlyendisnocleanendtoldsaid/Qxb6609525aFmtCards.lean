/-
  DERIVED. GIVEN WITH THE SEED: THE CARDS: each row of Qxb6609525aFmtRows.lean that lists a variable, with what it lists TIED to the program's text (the seventh form; the later family's looks); each row that meets fmt, with fmt's text TOLD by the authors' own Lean function (tested against real Go, not proved from fmt's source: count such statements apart). THE CARD IS WHAT COUNTS. Prove the row's statement (the work); the ties are given (Qxb6609525aFmtTie.lean); close each card by the builder's one call (the guide's Derived/Test/ToyasCard.lean, 'card_holds'). Laid BY PROGRAM, IN A SANDBOX (cutbox-door.mjs). By AI agents, Wed Nov 11 2026. No macro, syntax, notation, axiom, sorry.
-/
import Derived.Test.Qxb6609525aFmtRows
import GoSem.ClaimSeven
namespace Go.Proofs.Qxb6609525aFmt
namespace Rows

/-- THE TOLD AND TIED CARD OF 'zzlaws_internal_upstream_b1.FnReadErrorWrapsCauseAsInterruption'. -/
def fnReadErrorWrapsCauseAsInterruptionCard : Claim7 := { stood := { row := fnReadErrorWrapsCauseAsInterruptionRow, standIns := [], harness := (true, "a18922cd2677d50e1c97765a62c2e3d74b8013b86915a35fa946e0b9b716e78d"), looks := true }, told := true, laidByText := true, laidKinds := [.sentinel, .sentinel, .sentinel], laidTests := true, laidLooks := .later, goes := false }
def FnReadErrorWrapsCauseAsInterruptionToldSaid : Prop := Claim7.holds Tryf.pinned (.plain (OpenSpec.ofChange fnReadErrorWrapsCauseAsInterruptionSpec)) fnReadErrorWrapsCauseAsInterruptionCard
/-- ITS FALSE NEIGHBOUR. Refute it at one input. -/
def FnReadErrorWrapsCauseAsInterruptionToldWrongFalsely : Prop := Claim7.holds Tryf.pinned (.plain (OpenSpec.ofChange fnReadErrorWrapsCauseAsInterruptionWrong)) fnReadErrorWrapsCauseAsInterruptionCard

/-- THE TOLD AND TIED CARD OF 'zzlaws_internal_upstream_b1.FnReadErrorEarlyEndIsNoCleanEnd'. -/
def fnReadErrorEarlyEndIsNoCleanEndCard : Claim7 := { stood := { row := fnReadErrorEarlyEndIsNoCleanEndRow, standIns := [], harness := (true, "a18922cd2677d50e1c97765a62c2e3d74b8013b86915a35fa946e0b9b716e78d"), looks := true }, told := true, laidByText := true, laidKinds := [.sentinel, .sentinel, .sentinel], laidTests := true, laidLooks := .later, goes := false }
def FnReadErrorEarlyEndIsNoCleanEndToldSaid : Prop := Claim7.holds Tryf.pinned (.plain (OpenSpec.ofChange fnReadErrorEarlyEndIsNoCleanEndSpec)) fnReadErrorEarlyEndIsNoCleanEndCard
/-- ITS FALSE NEIGHBOUR. Refute it at one input. -/
def FnReadErrorEarlyEndIsNoCleanEndToldWrongFalsely : Prop := Claim7.holds Tryf.pinned (.plain (OpenSpec.ofChange fnReadErrorEarlyEndIsNoCleanEndWrong)) fnReadErrorEarlyEndIsNoCleanEndCard
end Rows
end Go.Proofs.Qxb6609525aFmt
