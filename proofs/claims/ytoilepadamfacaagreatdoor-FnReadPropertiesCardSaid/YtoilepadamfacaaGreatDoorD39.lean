/- FnReadProperties holds as its row states it, and its tied card: no condition beyond the row. -/
import Derived.Test.YtoilepadamfacaaGreatDoorD36
import Derived.Test.YtoilepadamfacaaGreatDoorD37
import Derived.Test.YtoilepadamfacaaGreatDoorD38
set_option linter.unusedVariables false
set_option linter.unusedSimpArgs false
namespace Go.Proofs.YtoilepadamfacaaGreatDoor
open Go.ChangeShapes Go.WideShapes Go.ChangeAt Go.RowKit Go.Proofs.S
theorem andT {a b : Bool} (ha : a = true) (hb : b = true) : (a && b) = true := by rw [ha, hb]; rfl
set_option maxRecDepth 100000 in
theorem joined3 : joinedFacts Tryz.prog 3 Tryz.f3 Rows.fnReadPropertiesSpec Rows.fnReadPropertiesRow = true := by
  unfold joinedFacts
  exact andT (andT (andT (andT (andT (andT (andT (andT (andT (andT (andT (andT (andT (andT (andT (andT (andT (andT (andT (andT (andT (andT (andT (andT (andT (andT (andT (andT (andT (andT (andT (fact0) fact1) fact2) fact3) fact4) fact5) fact6) fact7) fact8) fact9) fact10) fact11) fact12) fact13) fact14) fact15) fact16) fact17) fact18) fact19) fact20) fact21) fact22) fact23) fact24) fact25) fact26) fact27) fact28) fact29) fact30) fact31
theorem inst3 : Tryz.f3.isInstance Tryz.prog Rows.fnReadPropertiesRow.origin Rows.fnReadPropertiesRow.targs := of_decide_eq_true (by kernel_rfl)
theorem wrap3 : Tryz.f3.isWrapper Tryz.prog Rows.fnReadPropertiesRow.wrapper Rows.fnReadPropertiesRow.mainSum := by
  unfold Func.isWrapper
  first | (rw [if_pos (by decide +kernel)]; kernel_rfl) | (rw [if_neg (by decide +kernel)]; exact ⟨rfl, rfl⟩)
/-- The row's law holds: for every properties value, format and byte list that its guards let in, the law answers true. -/
theorem said : Rows.FnReadPropertiesSaid :=
  OpenClaim.holds_of_wide 3 Tryz.f3 rfl rfl rfl rfl rfl rfl rfl ⟨rfl, rfl, rfl, rfl, rfl⟩ rfl rfl rfl rfl rfl named3 Tryz.func3 joined3
    inst3 wrap3 (fun os started H enc _ => lifted os started H enc)
theorem cardWf : Rows.fnReadPropertiesRow.wfByText (OpenSpec.ofChange Rows.fnReadPropertiesSpec) = true := by kernel_rfl
theorem mainIs3 : Tryz.prog.mainIs = some (true, "ad4010538fe24f448fd145111436aa92ab7307b08b1deb3ef0db761b09edbcd8".toList) := by kernel_rfl
theorem looks3 : true = Tryz.prog.looks [] := by kernel_rfl
theorem stand3 : ([28, 29, 23].all fun u => !Tryz.prog.wantsStandIn u) = true := by kernel_rfl
theorem goes3 : false = Rows.fnReadPropertiesRow.goesBy Tryz.prog := by kernel_rfl
/-- The card's statement: the row's law holds and its listed variables are tied to the program's text. -/
theorem card_holds : Rows.FnReadPropertiesCardSaid :=
  Claim7.holds_tied_plain_at .later [] [.data, .sentinel, .pinned] true (true, "ad4010538fe24f448fd145111436aa92ab7307b08b1deb3ef0db761b09edbcd8") true
    said (fun _ h => by cases h) cardWf (fun _ h => by cases h) fnReadProperties_row_tie rfl ⟨rfl, rfl⟩ mainIs3 rfl
    (fun f fn hf hfn => by
      obtain rfl : f = 3 := Option.some.inj (named3.symm.trans hf) |>.symm
      obtain rfl : fn = Tryz.f3 := (Option.some.inj (Tryz.func3.symm.trans hfn)).symm
      exact ⟨looks3, fun j t ht => by
        rw [Tryz.params3] at ht
        have hm : t ∈ [28, 29, 23] := by simpa using Array.mem_of_getElem? ht
        exact (show Tryz.prog.wantsStandIn t = false by simpa using List.all_eq_true.1 stand3 t hm)⟩)
    goes3
#print axioms card_holds
end Go.Proofs.YtoilepadamfacaaGreatDoor
