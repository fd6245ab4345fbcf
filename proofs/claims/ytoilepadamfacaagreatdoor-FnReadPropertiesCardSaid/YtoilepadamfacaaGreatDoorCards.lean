/-
  DERIVED. GIVEN WITH THE SEED: THE CARDS: each row of YtoilepadamfacaaGreatDoorRows.lean that lists a variable, with what it lists TIED to the program's text (the seventh form; the later family's looks); each row that meets fmt, with fmt's text TOLD by the authors' own Lean function (tested against real Go, not proved from fmt's source: count such statements apart). THE CARD IS WHAT COUNTS. Prove the row's statement (the work); the ties are given (YtoilepadamfacaaGreatDoorTie.lean); close each card by the builder's one call (the guide's Derived/Test/ToyasCard.lean, 'card_holds'). Laid BY PROGRAM, IN A SANDBOX (cutbox-door.mjs). By AI agents, Wed Nov 11 2026. No macro, syntax, notation, axiom, sorry.
-/
import Derived.Test.YtoilepadamfacaaGreatDoorRows
import GoSem.ClaimSeven
namespace Go.Proofs.YtoilepadamfacaaGreatDoor
namespace Rows

/-- THE TIED CARD OF 'laws.FnReadProperties'. -/
def fnReadPropertiesCard : Claim7 := { stood := { row := fnReadPropertiesRow, standIns := [], harness := (true, "ad4010538fe24f448fd145111436aa92ab7307b08b1deb3ef0db761b09edbcd8"), looks := true }, kinds := [], alts := [], laidByText := true, laidKinds := [.data, .sentinel, .pinned], laidTests := true, laidLooks := .later }
def FnReadPropertiesCardSaid : Prop := Claim7.holds Tryz.pinned (.plain (OpenSpec.ofChange fnReadPropertiesSpec)) fnReadPropertiesCard

/-- THE TIED CARD OF 'laws.FnReadSource'. -/
def fnReadSourceCard : Claim7 := { stood := { row := fnReadSourceRow, standIns := [], harness := (true, "ad4010538fe24f448fd145111436aa92ab7307b08b1deb3ef0db761b09edbcd8"), looks := true }, kinds := [], alts := [], laidByText := true, laidKinds := [.data, .sentinel, .pinned], laidTests := true, laidLooks := .later }
def FnReadSourceCardSaid : Prop := Claim7.holds Tryz.pinned (.plain (OpenSpec.ofChange fnReadSourceSpec)) fnReadSourceCard

/-- THE TIED CARD OF 'laws.FnReadFlow'. -/
def fnReadFlowCard : Claim7 := { stood := { row := fnReadFlowRow, standIns := [], harness := (true, "ad4010538fe24f448fd145111436aa92ab7307b08b1deb3ef0db761b09edbcd8"), looks := true }, kinds := [], alts := [], laidByText := true, laidKinds := [.data, .sentinel, .pinned], laidTests := true, laidLooks := .later }
def FnReadFlowCardSaid : Prop := Claim7.holds Tryz.pinned (.plain (OpenSpec.ofChange fnReadFlowSpec)) fnReadFlowCard

/-- THE SECOND FORM's CARD OF 'laws.FnReadProperties'. -/
def fnReadPropertiesUptoCard : Claim7 := { stood := { row := fnReadPropertiesUptoRow, standIns := [], harness := (true, "ad4010538fe24f448fd145111436aa92ab7307b08b1deb3ef0db761b09edbcd8"), looks := true }, kinds := [], alts := [], laidByText := true, laidKinds := [.data, .sentinel, .pinned], laidTests := true, laidLooks := .later }
def FnReadPropertiesUptoCardSaid : Prop := Claim7.holds Tryz.pinned (.plain (OpenSpec.upto fnReadPropertiesSpec)) fnReadPropertiesUptoCard

/-- THE SECOND FORM's CARD OF 'laws.FnReadSource'. -/
def fnReadSourceUptoCard : Claim7 := { stood := { row := fnReadSourceUptoRow, standIns := [], harness := (true, "ad4010538fe24f448fd145111436aa92ab7307b08b1deb3ef0db761b09edbcd8"), looks := true }, kinds := [], alts := [], laidByText := true, laidKinds := [.data, .sentinel, .pinned], laidTests := true, laidLooks := .later }
def FnReadSourceUptoCardSaid : Prop := Claim7.holds Tryz.pinned (.plain (OpenSpec.upto fnReadSourceSpec)) fnReadSourceUptoCard

/-- THE SECOND FORM's CARD OF 'laws.FnReadFlow'. -/
def fnReadFlowUptoCard : Claim7 := { stood := { row := fnReadFlowUptoRow, standIns := [], harness := (true, "ad4010538fe24f448fd145111436aa92ab7307b08b1deb3ef0db761b09edbcd8"), looks := true }, kinds := [], alts := [], laidByText := true, laidKinds := [.data, .sentinel, .pinned], laidTests := true, laidLooks := .later }
def FnReadFlowUptoCardSaid : Prop := Claim7.holds Tryz.pinned (.plain (OpenSpec.upto fnReadFlowSpec)) fnReadFlowUptoCard
end Rows
end Go.Proofs.YtoilepadamfacaaGreatDoor
