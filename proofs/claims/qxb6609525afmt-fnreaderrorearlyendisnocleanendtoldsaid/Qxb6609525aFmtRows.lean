/-
  NARROWER THAN 'FOR EVERY INPUT', by the rows' own cells (each row's printed sentence says how): FnReadErrorWrapsCauseAsInterruption: ifaces, laid · FnReadErrorEarlyEndIsNoCleanEnd: ifaces, laid.
  DERIVED. THE GIVEN ROWS OF THIS SEAT. 2 by the template 'for every input the law returns true; each argument reads behind the call as it read before'; 0 by the template 'total and deterministic' (their statements: Qxb6609525aFmtTotals.lean).
  GIVEN WITH THE SEED: the statements are not yours to turn. If you find one false, say at which input.
  Laid BY PROGRAM, IN A SANDBOX (cutbox-rows.mjs): the forced cells as the released guide's own fill.sh prints them over the translation 4ba7fcc9ae10901d… (all of the seat's roots in one cut). By AI agents, Wed Nov 11 2026. No macro, syntax, notation, axiom, sorry.
-/
import Derived.Test.Qxb6609525aFmtChecked
import GoSem.Claim
import GoSem.ClaimJoined
import GoSem.ClaimMapViews
import Derived.JoinedTies
import Derived.KernelRfl
namespace Go.Proofs.Qxb6609525aFmt
/- THE CELL 'sum', in the pinned program and in every row, IS THE sha256 OF THE DUMP (.gsa) THAT Qxb6609525aFmtProg.lean LOADS. Nothing in Lean hashes anything: it is a label: what it is worth is what the hold of that sum in a sandbox is worth. -/
noncomputable def Tryf.pinned : Pinned := { name := "qxb6609525afmt", sum := "4ba7fcc9ae10901d946814450631a6278baba1a0769c569adb3cc45e4d6c3fed", checked := Tryf.checked }
namespace Rows
def none {H : Type} : Left H := { results := [], args := [] }

/- WHAT THE LISTED PACKAGE-LEVEL VARIABLES READ AS WHEN THE CALL BEGINS. Each datum BY PROGRAM (the guide's laid-datum.mjs) off the statement by which the dump's own 'gosem.cut.vars' lays the variable. In a bare row this is a premise. The card (Qxb6609525aFmtCards.lean) ties it to the program's text. -/
def laid_io_EOF {H : Type} : DataW H := .iface "*errors.errorString" (.ptr (.agg [.lit (.string [69, 79, 70])]))
def laid_io_ErrUnexpectedEOF {H : Type} : DataW H := .iface "*errors.errorString" (.ptr (.agg [.lit (.string [117, 110, 101, 120, 112, 101, 99, 116, 101, 100, 32, 69, 79, 70])]))
def laid_example_com_boveda_boveda_internal_upstream_ErrInterrupted {H : Type} : DataW H := .iface "*errors.errorString" (.ptr (.agg [.lit (.string [117, 112, 115, 116, 114, 101, 97, 109, 58, 32, 116, 104, 101, 32, 115, 116, 114, 101, 97, 109, 32, 101, 110, 100, 101, 100, 32, 98, 101, 102, 111, 114, 101, 32, 105, 116, 32, 119, 97, 115, 32, 99, 111, 109, 112, 108, 101, 116, 101])]))

/-- 'zzlaws_internal_upstream_b1.FnReadErrorWrapsCauseAsInterruption': WHATEVER THE INPUT: true; the input reads as it did. -/
def fnReadErrorWrapsCauseAsInterruptionSpec : ChangeSpec := { name := "fnReadErrorWrapsCauseAsInterruption", vars := ["example.com/boveda/boveda/internal/upstream.ErrInterrupted"], fn := fun _ => fun
  | [d1, d2, g1] => { results := [.lit (.bool true)], args := [d1, d2], vars := [g1] }
  | _ => none }
def fnReadErrorWrapsCauseAsInterruptionRow : OpenClaim := { program := "qxb6609525afmt", sum := "4ba7fcc9ae10901d946814450631a6278baba1a0769c569adb3cc45e4d6c3fed", func := "example.com/boveda/boveda/zzlaws_internal_upstream_b1.FnReadErrorWrapsCauseAsInterruption", spec := "fnReadErrorWrapsCauseAsInterruption", stops := ["fmt.errorf"], inPlace := ["internal/reflectlite.TypeOf", "fmt.errorf"], unfollowed := true, recurses := true, named := ["example.com/boveda/boveda/internal/upstream.ErrInterrupted", "io.EOF", "io.ErrUnexpectedEOF"], ifaces := true, plainKeys := false, apart := false, laid := [("io.EOF", laid_io_EOF), ("io.ErrUnexpectedEOF", laid_io_ErrUnexpectedEOF), ("example.com/boveda/boveda/internal/upstream.ErrInterrupted", laid_example_com_boveda_boveda_internal_upstream_ErrInterrupted)] }
/-- NO THEOREM (fmt's text is open here; it may be false): for the released tool's asking of the row's closed facts alone. THE STATEMENT IS 'FnReadErrorWrapsCauseAsInterruptionToldSaid' (Qxb6609525aFmtCards.lean). -/
def FnReadErrorWrapsCauseAsInterruptionFormAsk : Prop := fnReadErrorWrapsCauseAsInterruptionRow.holds Tryf.pinned (OpenSpec.ofChange fnReadErrorWrapsCauseAsInterruptionSpec)

/-- ITS FALSE NEIGHBOUR: 'it returns false'. Refute it at one input. -/
def fnReadErrorWrapsCauseAsInterruptionWrong : ChangeSpec := { name := "fnReadErrorWrapsCauseAsInterruption", vars := ["example.com/boveda/boveda/internal/upstream.ErrInterrupted"], fn := fun _ => fun
  | [d1, d2, g1] => { results := [.lit (.bool false)], args := [d1, d2], vars := [g1] }
  | _ => none }
def FnReadErrorWrapsCauseAsInterruptionWrongFormAsk : Prop := fnReadErrorWrapsCauseAsInterruptionRow.holds Tryf.pinned (OpenSpec.ofChange fnReadErrorWrapsCauseAsInterruptionWrong)

/-- 'zzlaws_internal_upstream_b1.FnReadErrorEarlyEndIsNoCleanEnd': WHATEVER THE INPUT: true; the input reads as it did. -/
def fnReadErrorEarlyEndIsNoCleanEndSpec : ChangeSpec := { name := "fnReadErrorEarlyEndIsNoCleanEnd", vars := ["example.com/boveda/boveda/internal/upstream.ErrInterrupted"], fn := fun _ => fun
  | [d, g1] => { results := [.lit (.bool true)], args := [d], vars := [g1] }
  | _ => none }
def fnReadErrorEarlyEndIsNoCleanEndRow : OpenClaim := { program := "qxb6609525afmt", sum := "4ba7fcc9ae10901d946814450631a6278baba1a0769c569adb3cc45e4d6c3fed", func := "example.com/boveda/boveda/zzlaws_internal_upstream_b1.FnReadErrorEarlyEndIsNoCleanEnd", spec := "fnReadErrorEarlyEndIsNoCleanEnd", stops := ["fmt.errorf"], inPlace := ["internal/reflectlite.TypeOf", "fmt.errorf"], unfollowed := true, recurses := true, named := ["io.EOF", "example.com/boveda/boveda/internal/upstream.ErrInterrupted", "io.ErrUnexpectedEOF"], ifaces := true, plainKeys := false, apart := false, laid := [("io.EOF", laid_io_EOF), ("io.ErrUnexpectedEOF", laid_io_ErrUnexpectedEOF), ("example.com/boveda/boveda/internal/upstream.ErrInterrupted", laid_example_com_boveda_boveda_internal_upstream_ErrInterrupted)] }
/-- NO THEOREM (fmt's text is open here; it may be false): for the released tool's asking of the row's closed facts alone. THE STATEMENT IS 'FnReadErrorEarlyEndIsNoCleanEndToldSaid' (Qxb6609525aFmtCards.lean). -/
def FnReadErrorEarlyEndIsNoCleanEndFormAsk : Prop := fnReadErrorEarlyEndIsNoCleanEndRow.holds Tryf.pinned (OpenSpec.ofChange fnReadErrorEarlyEndIsNoCleanEndSpec)

/-- ITS FALSE NEIGHBOUR: 'it returns false'. Refute it at one input. -/
def fnReadErrorEarlyEndIsNoCleanEndWrong : ChangeSpec := { name := "fnReadErrorEarlyEndIsNoCleanEnd", vars := ["example.com/boveda/boveda/internal/upstream.ErrInterrupted"], fn := fun _ => fun
  | [d, g1] => { results := [.lit (.bool false)], args := [d], vars := [g1] }
  | _ => none }
def FnReadErrorEarlyEndIsNoCleanEndWrongFormAsk : Prop := fnReadErrorEarlyEndIsNoCleanEndRow.holds Tryf.pinned (OpenSpec.ofChange fnReadErrorEarlyEndIsNoCleanEndWrong)

end Rows
end Go.Proofs.Qxb6609525aFmt
