/- FnStrings: the row's statement. -/
import Derived.Test.YtfnncdngfggcjaaGreatDoorStringsC
import Derived.Test.YtfnncdngfggcjaaGreatDoorStringsF
namespace Go.Proofs.YtfnncdngfggcjaaGreatDoor
open Go.ChangeShapes Go.WideShapes Go.ChangeAt Go.RowKit Go.ChangeMaps

set_option maxRecDepth 100000 in
theorem saidStrings : Rows.FnStringsSaid :=
  OpenClaim.holds_of_cond 14 Tryz.f14 rfl rfl rfl rfl rfl rfl rfl ⟨rfl, rfl, rfl, rfl, rfl⟩ rfl rfl rfl rfl rfl namedStrings Tryz.func14 closedStrings instStrings wrapStrings
    (fun os started H enc _ F => by rw [OpenClaim.pre_eq_preRow]; exact liftedStrings os started H enc F)

end Go.Proofs.YtfnncdngfggcjaaGreatDoor
