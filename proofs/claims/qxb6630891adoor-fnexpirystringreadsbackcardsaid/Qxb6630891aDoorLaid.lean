import Derived.Test.Qxb6630891aDoorRows
import Derived.Test.Qxb6630891aDoorLawA
import Derived.ProofKit
import Derived.LaidMore
import Derived.OpenShut
import Derived.Lib.LaidTab
import Derived.MakeChecks
namespace Go.Proofs.Qxb6630891aDoor
open Go.ChangeShapes Go.WideShapes Go.ChangeAt Go.RowKit

/-- What the rows list. -/
def laid3 : List (String × DataW Unit) := Rows.fnExpiryStringReadsBackRow.laid

theorem own : ownKnob Tryd.prog.godebug = none := by kernel_rfl
theorem laidOut : laidOutB Tryd.prog = true := by kernel_rfl
theorem tPow : (Tryd.prog.globals[0]?).map (·.type) = some 42 := by kernel_rfl
theorem cells31 : Tryd.prog.cellsOf 31 = 1 := by kernel_rfl
theorem cells42 : Tryd.prog.cellsOf 42 = 20 := by kernel_rfl
theorem powData : (Rows.laid_internal_strconv_uint64pow10 : DataW Unit) = Lib.tabData .u64 Lib.pow10Tab := by kernel_rfl

/-- The heap that the door's own run leaves meets the condition: closed facts. -/
theorem door_met (os : Os) (args : Array Value) : laidMetH Tryd.prog laid3 ((World.doorLaid Tryd.prog 24 os).forCall (fun _ _ => 0) ⟨#[], args, []⟩).memory :=
  laidMetH_of_parts3 (fuel := 8) (laidMet_of_run' 8 (by kernel_rfl) (by kernel_rfl)) (by kernel_rfl) (by kernel_rfl)

/-- What the condition gives the walk: the table of powers. -/
theorem tab_of_laid {W : World} (h : laidMetH Tryd.prog laid3 W) : Tab W := by
  rw [MakeChecks.laidMetH_plain _ _ _ (by kernel_rfl)] at h
  obtain ⟨ps, ⟨g0, t0, cs0, f0, p0, q0, hg0, ht0, hv0, hd0, ⟨g1, t1, cs1, f1, p1, q1, hg1, ht1, hv1, hd1, ⟨g2, t2, cs2, f2, p2, q2, hg2, ht2, hv2, hd2, _, _⟩, _⟩, _⟩, _, _⟩ := h
  obtain rfl := Option.some.inj (Tryd.gPow.symm.trans hg2)
  obtain rfl := Option.some.inj (tPow.symm.trans ht2)
  rw [powData] at hd2
  unfold Tab Lib.TabIs
  refine Eq.trans hv2 ?_
  rw [← Lib.cells_of_tab Tryd.underlying42 Tryd.underlying31 cells31 cells42 hd2]

end Go.Proofs.Qxb6630891aDoor
