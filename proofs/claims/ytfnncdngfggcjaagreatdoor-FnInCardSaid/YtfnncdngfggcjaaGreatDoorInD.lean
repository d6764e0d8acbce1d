/- FnIn: the row's statement. -/
import Derived.Test.YtfnncdngfggcjaaGreatDoorInC
import Derived.Test.YtfnncdngfggcjaaGreatDoorInF
namespace Go.Proofs.YtfnncdngfggcjaaGreatDoor
open Go.ChangeShapes Go.WideShapes Go.ChangeAt Go.RowKit Go.ChangeMaps

set_option maxRecDepth 100000 in
theorem saidIn : Rows.FnInSaid :=
  OpenClaim.holds_of_cond 13 Tryz.f13 rfl rfl rfl rfl rfl rfl rfl ⟨rfl, rfl, rfl, rfl, rfl⟩ rfl rfl rfl rfl rfl namedIn Tryz.func13 closedIn instIn wrapIn
    (fun os started H enc _ F => by rw [OpenClaim.pre_eq_preRow]; exact liftedIn os started H enc F)

end Go.Proofs.YtfnncdngfggcjaaGreatDoor
