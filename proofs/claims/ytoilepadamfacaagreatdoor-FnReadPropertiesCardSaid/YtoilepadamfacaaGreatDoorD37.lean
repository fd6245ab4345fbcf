/- Closed facts of the row, first half: no condition. -/
import Derived.Test.YtoilepadamfacaaGreatDoorRows
import Derived.ProofKit
import Derived.Stop.Joined
import Derived.SevenTiedAt
set_option linter.unusedVariables false
set_option linter.unusedSimpArgs false
namespace Go.Proofs.YtoilepadamfacaaGreatDoor
open Go.ChangeShapes Go.WideShapes Go.ChangeAt Go.RowKit
theorem fact0 : (Rows.fnReadPropertiesRow.wf (OpenSpec.ofChange Rows.fnReadPropertiesSpec)) = true := by kernel_rfl
theorem fact1 : (laidOutB Tryz.prog) = true := by kernel_rfl
theorem fact2 : (mapsRowed Tryz.prog) = true := by kernel_rfl
theorem fact3 : (Tryz.f3.params.all (Tryz.prog.readableRec ·)) = true := by kernel_rfl
theorem fact4 : (namedTie Tryz.prog Rows.fnReadPropertiesRow.named Rows.fnReadPropertiesSpec.vars) = true := by kernel_rfl
theorem fact5 : ((Rows.fnReadPropertiesRow.stops == [])) = true := by kernel_rfl
theorem fact6 : ((Tryz.prog.stops == [])) = true := by kernel_rfl
theorem fact7 : ((Rows.fnReadPropertiesRow.knobs == [])) = true := by kernel_rfl
theorem fact8 : ((Tryz.prog.stopKnobs == [])) = true := by kernel_rfl
theorem fact9 : ((Rows.fnReadPropertiesRow.inPlace == Tryz.prog.inPlace 3)) = true := by kernel_rfl
theorem fact10 : ((Rows.fnReadPropertiesRow.unfollowed == Tryz.prog.unfollowed 3)) = true := by kernel_rfl
theorem fact11 : ((Rows.fnReadPropertiesRow.recurses == Tryz.prog.recurses 3)) = true := by kernel_rfl
theorem fact12 : ((Rows.fnReadPropertiesRow.named == Tryz.prog.varsNamed 3)) = true := by kernel_rfl
theorem fact13 : ((Rows.fnReadPropertiesRow.maps == (Tryz.f3.params.toList ++ Rows.fnReadPropertiesSpec.plain.varTypes Tryz.prog).any (Tryz.prog.mapsRec ·))) = true := by kernel_rfl
theorem fact14 : ((Rows.fnReadPropertiesRow.ifaces == (Tryz.f3.params.toList ++ Rows.fnReadPropertiesSpec.plain.varTypes Tryz.prog).any (Tryz.prog.ifacesRec ·))) = true := by kernel_rfl
theorem fact15 : ((Rows.fnReadPropertiesRow.mapsOut == Tryz.prog.mapsAmong Tryz.f3.resultTypes.toList)) = true := by kernel_rfl
end Go.Proofs.YtoilepadamfacaaGreatDoor
