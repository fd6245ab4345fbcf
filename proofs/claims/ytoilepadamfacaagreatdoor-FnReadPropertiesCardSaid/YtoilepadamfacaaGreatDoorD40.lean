/- The laid world of the row meets the facts that the form of claims asks of it: no condition. -/
import Derived.Test.YtoilepadamfacaaGreatDoorRows
import Derived.ProofKit
import Derived.LaidMore
import Derived.OpenShut
import Derived.Stop.Joined
import Derived.Lib.LaidU8T
import Derived.PinnedBridge
import Derived.SevenTiedAt
set_option linter.unusedVariables false
set_option linter.unusedSimpArgs false
namespace Go.Proofs.YtoilepadamfacaaGreatDoor
open Go.ChangeShapes Go.WideShapes Go.ChangeAt Go.RowKit
theorem own : ownKnob Tryz.prog.godebug = Option.none := by kernel_rfl
theorem laidOut : laidOutB Tryz.prog = true := by kernel_rfl
/-- The variables that the row lists, as they read. -/
noncomputable def laidWorld (os : Os) : World :=
  let w0 := World.doorLaid Tryz.prog 400 os
  { w0 with heap := w0.heap.modify 2 fun
      | .cells _ t frozen => .cells (Lib.firstTab.map fun z => Value.int .u8 z).toArray t frozen
      | o => o }
def argv : Array Value := #[.agg #[.slice Option.none 0 0, .slice Option.none 0 0, .slice Option.none 0 0, .slice Option.none 0 0, .slice Option.none 0 0, .slice Option.none 0 0, .slice Option.none 0 0, .slice Option.none 0 0, .slice Option.none 0 0, .slice Option.none 0 0, .slice Option.none 0 0, .slice Option.none 0 0, .slice Option.none 0 0], .int .u64 0, .slice Option.none 0 0]
theorem plain_laid : (Rows.fnReadPropertiesRow.laid.all fun x => x.2.handleName?.isNone) = true := by kernel_rfl
theorem wit1 (os : Os) : ((laidWorld os).forCall (fun _ _ => 0) ⟨#[], argv, []⟩).variablesRefB Tryz.prog = true := by kernel_rfl
theorem wit2 (os : Os) : (((laidWorld os).forCall (fun _ _ => 0) ⟨#[], argv, []⟩).heap.toList.drop Tryz.prog.globals.size).take ((begin Tryz.prog (fun _ _ => 0) default).world.heap.size - Tryz.prog.globals.size) = (begin Tryz.prog (fun _ _ => 0) default).world.heap.toList.drop Tryz.prog.globals.size := by kernel_rfl
theorem wit3 (os : Os) : Input.okWideB Tryz.prog ((laidWorld os).forCall (fun _ _ => 0) ⟨#[], argv, []⟩) 3 ⟨#[], argv, []⟩ = true := by kernel_rfl
theorem wit4 (os : Os) {H : Type} (enc : TypeId × Value → H) : Rows.fnReadPropertiesSpec.preB enc Tryz.prog Tryz.f3 [] false ((laidWorld os).forCall (fun _ _ => 0) ⟨#[], argv, []⟩).memory argv 8 = true := by kernel_rfl
theorem wit5 (os : Os) {H : Type} (enc : TypeId × Value → H) : Rows.fnReadPropertiesSpec.sizedB enc Tryz.prog Tryz.f3 false ((laidWorld os).forCall (fun _ _ => 0) ⟨#[], argv, []⟩).memory argv 8 = true := by kernel_rfl
theorem noInit : Tryz.prog.inits.idxOf? 3 = Option.none := by kernel_rfl
theorem read28 : Tryz.prog.readableRec 28 = true := by kernel_rfl
theorem read23 : Tryz.prog.readableRec 23 = true := by kernel_rfl
theorem size28 : 28 < Tryz.prog.types.size := of_decide_eq_true (by kernel_rfl)
theorem size23 : 23 < Tryz.prog.types.size := of_decide_eq_true (by kernel_rfl)
end Go.Proofs.YtoilepadamfacaaGreatDoor
