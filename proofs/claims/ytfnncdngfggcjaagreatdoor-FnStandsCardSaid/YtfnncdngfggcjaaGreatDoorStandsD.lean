/- FnStands: the row's statement. -/
import Derived.Test.YtfnncdngfggcjaaGreatDoorStandsC
import Derived.Test.YtfnncdngfggcjaaGreatDoorStandsF
namespace Go.Proofs.YtfnncdngfggcjaaGreatDoor
open Go.ChangeShapes Go.WideShapes Go.ChangeAt Go.RowKit Go.ChangeMaps

set_option maxRecDepth 100000 in
theorem saidStands : Rows.FnStandsSaid :=
  OpenClaim.holds_of_cond 11 Tryz.f11 rfl rfl rfl rfl rfl rfl rfl ⟨rfl, rfl, rfl, rfl, rfl⟩ rfl rfl rfl rfl rfl namedStands Tryz.func11 closedStands instStands wrapStands
    (fun os started H enc _ F => by rw [OpenClaim.pre_eq_preRow]; exact liftedStands os started H enc F)

end Go.Proofs.YtfnncdngfggcjaaGreatDoor
