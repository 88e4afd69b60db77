/-
  No cell of these rows narrows 'for every input' (looked for: loops, veiled, ifaces, maps, wideKeys, modest, calm, conditions, laid).
  DERIVED. THE GIVEN ROWS OF THIS SEAT. 2 by the template 'for every input the law returns true; each argument reads behind the call as it read before'; 0 by the template 'total and deterministic' (their statements: Qxb6609525aTotals.lean).
  GIVEN WITH THE SEED: the statements are not yours to turn. If you find one false, say at which input.
  Laid BY PROGRAM, IN A SANDBOX (cutbox-rows.mjs): the forced cells as the released guide's own fill.sh prints them over the translation 999b5b402338328b… (all of the seat's roots in one cut). By AI agents, Wed Nov 11 2026. No macro, syntax, notation, axiom, sorry.
-/
import Derived.Test.Qxb6609525aChecked
import GoSem.Claim
import GoSem.ClaimJoined
import GoSem.ClaimMapViews
import Derived.JoinedTies
import Derived.KernelRfl
namespace Go.Proofs.Qxb6609525a
/- THE CELL 'sum', in the pinned program and in every row, IS THE sha256 OF THE DUMP (.gsa) THAT Qxb6609525aProg.lean LOADS. Nothing in Lean hashes anything: it is a label: what it is worth is what the hold of that sum in a sandbox is worth. -/
noncomputable def Try.pinned : Pinned := { name := "qxb6609525a", sum := "999b5b402338328be7c6258e07a63decdb9a5c5e43617dba3898e2f3d1474013", checked := Try.checked }
namespace Rows
def none {H : Type} : Left H := { results := [], args := [] }

/-- 'zzlaws_internal_upstream_b1.FnNewEventsKeepsItsOwnKey': WHATEVER THE INPUT: true; the input reads as it did. -/
def fnNewEventsKeepsItsOwnKeySpec : ChangeSpec := { name := "fnNewEventsKeepsItsOwnKey", fn := fun _ => fun
  | [d1, d2, d3] => { results := [.lit (.bool true)], args := [d1, d2, d3] }
  | _ => none }
def fnNewEventsKeepsItsOwnKeyRow : OpenClaim := { program := "qxb6609525a", sum := "999b5b402338328be7c6258e07a63decdb9a5c5e43617dba3898e2f3d1474013", func := "example.com/boveda/boveda/zzlaws_internal_upstream_b1.FnNewEventsKeepsItsOwnKey", spec := "fnNewEventsKeepsItsOwnKey", plainKeys := false, apart := false }
def FnNewEventsKeepsItsOwnKeySaid : Prop := fnNewEventsKeepsItsOwnKeyRow.holds Try.pinned (OpenSpec.ofChange fnNewEventsKeepsItsOwnKeySpec)

/-- ITS FALSE NEIGHBOUR: 'it returns false'. Refute it at one input. -/
def fnNewEventsKeepsItsOwnKeyWrong : ChangeSpec := { name := "fnNewEventsKeepsItsOwnKey", fn := fun _ => fun
  | [d1, d2, d3] => { results := [.lit (.bool false)], args := [d1, d2, d3] }
  | _ => none }
def FnNewEventsKeepsItsOwnKeyWrongFalsely : Prop := fnNewEventsKeepsItsOwnKeyRow.holds Try.pinned (OpenSpec.ofChange fnNewEventsKeepsItsOwnKeyWrong)

/-- 'zzlaws_internal_upstream_b1.FnNewEventsCopiesAreIndependent': WHATEVER THE INPUT: true; the input reads as it did. -/
def fnNewEventsCopiesAreIndependentSpec : ChangeSpec := { name := "fnNewEventsCopiesAreIndependent", fn := fun _ => fun
  | [d1, d2, d3] => { results := [.lit (.bool true)], args := [d1, d2, d3] }
  | _ => none }
def fnNewEventsCopiesAreIndependentRow : OpenClaim := { program := "qxb6609525a", sum := "999b5b402338328be7c6258e07a63decdb9a5c5e43617dba3898e2f3d1474013", func := "example.com/boveda/boveda/zzlaws_internal_upstream_b1.FnNewEventsCopiesAreIndependent", spec := "fnNewEventsCopiesAreIndependent", plainKeys := false, apart := false }
def FnNewEventsCopiesAreIndependentSaid : Prop := fnNewEventsCopiesAreIndependentRow.holds Try.pinned (OpenSpec.ofChange fnNewEventsCopiesAreIndependentSpec)

/-- ITS FALSE NEIGHBOUR: 'it returns false'. Refute it at one input. -/
def fnNewEventsCopiesAreIndependentWrong : ChangeSpec := { name := "fnNewEventsCopiesAreIndependent", fn := fun _ => fun
  | [d1, d2, d3] => { results := [.lit (.bool false)], args := [d1, d2, d3] }
  | _ => none }
def FnNewEventsCopiesAreIndependentWrongFalsely : Prop := fnNewEventsCopiesAreIndependentRow.holds Try.pinned (OpenSpec.ofChange fnNewEventsCopiesAreIndependentWrong)

end Rows
end Go.Proofs.Qxb6609525a
