/- Closed facts of the row, second half: no condition. -/
import Derived.Test.YtoilepadamfacaaGreatDoorRows
import Derived.ProofKit
import Derived.Stop.Joined
import Derived.SevenTiedAt
set_option linter.unusedVariables false
set_option linter.unusedSimpArgs false
namespace Go.Proofs.YtoilepadamfacaaGreatDoor
open Go.ChangeShapes Go.WideShapes Go.ChangeAt Go.RowKit
theorem fact16 : ((Rows.fnReadPropertiesRow.loops == (Tryz.f3.params.toList ++ Rows.fnReadPropertiesSpec.plain.varTypes Tryz.prog).any (Tryz.prog.loopsFrom ·))) = true := by kernel_rfl
theorem fact17 : ((Rows.fnReadPropertiesRow.wideKeys == (Tryz.f3.params.toList ++ Rows.fnReadPropertiesSpec.plain.varTypes Tryz.prog ++ Tryz.f3.resultTypes.toList).any (Tryz.prog.wideKeysFrom ·))) = true := by kernel_rfl
theorem fact18 : (Rows.fnReadPropertiesSpec.vars.all (Tryz.prog.varReadable ·)) = true := by kernel_rfl
theorem fact19 : (Tryz.f3.resultTypes.all (fun t => Tryz.prog.readableRec t && decide (t < Tryz.prog.types.size))) = true := by kernel_rfl
theorem fact20 : ((Rows.fnReadPropertiesRow.ifacesOut == Tryz.f3.resultTypes.toList.any (Tryz.prog.ifacesRec ·))) = true := by kernel_rfl
theorem fact21 : ((Rows.fnReadPropertiesRow.loopsOut == Tryz.f3.resultTypes.toList.any (Tryz.prog.loopsFrom ·))) = true := by kernel_rfl
theorem fact22 : ((Rows.fnReadPropertiesRow.plainKeys == Tryz.prog.plainKeys)) = true := by kernel_rfl
theorem fact23 : (Rows.fnReadPropertiesRow.shortTexts.isNone) = true := by kernel_rfl
theorem fact24 : (Tryz.prog.stopsHeard) = true := by kernel_rfl
theorem fact25 : (Tryz.prog.mayEnter) = true := by kernel_rfl
theorem fact26 : ((Rows.fnReadPropertiesRow.lifted == Tryz.prog.liftsFinal)) = true := by kernel_rfl
theorem fact27 : ((Tryz.prog.make == some Rows.fnReadPropertiesRow.make)) = true := by kernel_rfl
theorem fact28 : ((Rows.fnReadPropertiesRow.kinds == (if Rows.fnReadPropertiesRow.domain.isEmpty then [] else Tryz.f3.params.toList.map fun t => match Tryz.prog.underlying t with | some (.int k) => some k | _ => none))) = true := by kernel_rfl
theorem fact29 : ((Rows.fnReadPropertiesRow.pinned == Rows.fnReadPropertiesRow.pinnedBy)) = true := by kernel_rfl
theorem fact30 : ((Rows.fnReadPropertiesRow.veiled == (Tryz.f3.params.toList ++ Rows.fnReadPropertiesSpec.plain.varTypes Tryz.prog ++ Tryz.f3.resultTypes.toList).any (Tryz.prog.veiledRec ·))) = true := by kernel_rfl
theorem fact31 : (Rows.fnReadPropertiesRow.veiledFits Tryz.prog Tryz.f3.params.toList (Tryz.f3.params.toList ++ Rows.fnReadPropertiesSpec.plain.varTypes Tryz.prog ++ Tryz.f3.resultTypes.toList)) = true := by kernel_rfl
theorem named3 : Tryz.prog.funcNamed "given.example/pub-saddlebag/laws.FnReadProperties" = some 3 := by kernel_rfl
end Go.Proofs.YtoilepadamfacaaGreatDoor
