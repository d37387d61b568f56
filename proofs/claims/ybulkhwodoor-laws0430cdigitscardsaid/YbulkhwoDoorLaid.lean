import Derived.Test.YbulkhwoDoorDig
import Derived.Test.YbulkhwoDoorOrd
import Derived.Test.YbulkhwoDoorTie
import Derived.Test.YbulkhwoDoorCards
import Derived.ProofKit
import Derived.OpenShut
import Derived.LaidMore
import Derived.Lay
import Derived.MakeChecks
import Derived.Lib.LaidTab
import Derived.SevenTiedAt
import Derived.Stop.Joined
import Derived.ChangeOld
import Derived.WalkSmall
namespace Go.Proofs.YbulkhwoDoor
open Go.ChangeShapes Go.WideShapes Go.ChangeAt Go.RowKit

theorem own : ownKnob Ybad.prog.godebug = none := by kernel_rfl
theorem laidOut : laidOutB Ybad.prog = true := by kernel_rfl

/-- the variable's name, off the given specification -/
def nm : String := Rows.lawS0430CDigitsSpec.vars.headD ""
/-- the table's numbers -/
def pairL : List Int := (List.range 200).map fun i => (pairD i : Int)

theorem gP : Ybad.prog.globalNamed nm = some 0 := by kernel_rfl
theorem tP : (Ybad.prog.globals[0]?).map (·.type) = some 32 := by kernel_rfl
theorem cells5 : Ybad.prog.cellsOf 5 = 1 := by kernel_rfl
theorem cells32 : Ybad.prog.cellsOf 32 = 200 := by kernel_rfl
theorem laidEq1 : Rows.lawS0430CDigitsRow.laid = [(nm, Lib.tabData .u8 pairL)] := by kernel_rfl
theorem laidEq2 : Rows.lawS0430COrderRow.laid = [(nm, Lib.tabData .u8 pairL)] := by kernel_rfl

/-- what the variable's cells are -/
def cellsP : Array Value := (pairL.map fun z => Value.int .u8 z).toArray

theorem var_of {W : World} (h : laidMetH Ybad.prog [(nm, Lib.tabData .u8 pairL)] W) : W.var? Ybad.prog nm = some cellsP := by
  rw [MakeChecks.laidMetH_plain _ _ _ (by kernel_rfl)] at h
  exact Lib.tabIs_of_head gP tP Ybad.underlying32 Ybad.underlying5 cells5 cells32 h

theorem pairs_of {W : World} (h : W.var? Ybad.prog nm = some cellsP) : Pairs W := by
  intro i hi
  have := World.var?_cell gP h i
  rw [this]
  simp [cellsP, pairL, List.getElem?_range hi]

theorem pos_of {W : World} (h : Pairs W) : 0 < W.heap.size := World.block_lt_of_cell? W _ (h 0 (by omega))

theorem reads_table {H : Type} (enc : TypeId × Value → H) (W : World) (sp : Nat → Bool) : DataW.trod enc Ybad.prog W 0 sp true 3 32 cellsP.toList = some (Lib.tabData .u8 pairL, []) := by kernel_rfl

theorem met (os : Os) (args : Array Value) : laidMetH Ybad.prog [(nm, Lib.tabData .u8 pairL)] ((World.laidAll Ybad.prog os [(nm, Lib.tabData .u8 pairL)]).forCall (fun _ _ => 0) ⟨#[], args, []⟩).memory := by
  rw [MakeChecks.laidMetH_plain _ _ _ (by kernel_rfl)]
  exact laidMet_laidAll _ (by kernel_rfl) (by kernel_rfl)

end Go.Proofs.YbulkhwoDoor
