/-
  WHAT THE ROWS' CONDITION ('laid') GIVES THE WALKS: the table's 64 cells; AND A WORLD THAT MEETS IT (the door's own heap).
-/
import Derived.Test.Qxb6609497aDoorW1
import Derived.ProofKit
import Derived.LaidMore
import Derived.OpenShut
import Derived.Stop.Joined
import Derived.Lib.LaidTab
namespace Go.Proofs.Qxb6609497aDoor
open Go.ChangeShapes Go.WideShapes Go.ChangeAt Go.RowKit

theorem own : ownKnob Tryd.prog.godebug = none := by kernel_rfl

/-- The one listed variable. -/
def laid1 : List (String × DataW Unit) := Rows.fnPsiClassSettledIsLowestLiveWithLiveQuorumRow.laid

theorem tab_data : Rows.laid_math_bits_deBruijn64tab (H := Unit) = Lib.tabData .u8 (Lib.deBruijn64tab.map fun x : Nat => (x : Int)) := by
  simp [Rows.laid_math_bits_deBruijn64tab, Lib.tabData, Lib.deBruijn64tab]

theorem tab_of_laid {W : World} (h : laidMetH Tryd.prog laid1 W) : TabAt W ∧ 0 < W.heap.size := by
  rw [MakeChecks.laidMetH_plain _ _ _ (by kernel_rfl)] at h
  unfold laid1 Rows.fnPsiClassSettledIsLowestLiveWithLiveQuorumRow at h
  simp only at h
  rw [tab_data] at h
  have hT := Lib.tabIs_of_head (g := 0) (t := 70) (e := 5) (n := 64) (by kernel_rfl) (by kernel_rfl) Tryd.underlying70 Tryd.underlying5 (by kernel_rfl) (by kernel_rfl) h
  have hA : TabAt W := fun j hj => by
    have := hT.cell (g := 0) (by kernel_rfl) j (by simpa using hj)
    rw [this]
    congr 2
    simp [List.getD, List.getElem?_map, List.getElem?_eq_getElem hj]
  exact ⟨hA, World.block_lt_of_cell? W ⟨0, 0, none⟩ (hA 0 (by decide))⟩

theorem door_met (os : Os) (args : Array Value) : laidMetH Tryd.prog laid1 ((World.doorLaid Tryd.prog 400 os).forCall (fun _ _ => 0) ⟨#[], args, []⟩).memory :=
  laidMetH_of_parts3 (fuel := 8) (laidMet_of_run' 8 (by kernel_rfl) (by kernel_rfl)) (by kernel_rfl) (by kernel_rfl)

end Go.Proofs.Qxb6609497aDoor
