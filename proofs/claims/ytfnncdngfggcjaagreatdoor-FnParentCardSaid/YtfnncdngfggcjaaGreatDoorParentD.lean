/- FnParent: the row's statement. -/
import Derived.Test.YtfnncdngfggcjaaGreatDoorPtC
import Derived.Test.YtfnncdngfggcjaaGreatDoorParentF
namespace Go.Proofs.YtfnncdngfggcjaaGreatDoor
open Go.ChangeShapes Go.WideShapes Go.ChangeAt Go.RowKit Go.ChangeMaps

set_option maxRecDepth 100000 in
theorem saidParent : Rows.FnParentSaid :=
  OpenClaim.holds_of_cond 4 Tryz.f4 rfl rfl rfl rfl rfl rfl rfl ⟨rfl, rfl, rfl, rfl, rfl⟩ rfl rfl rfl rfl rfl namedParent Tryz.func4 closedParent instParent wrapParent
    (fun os started H enc _ F => by rw [OpenClaim.pre_eq_preRow]; exact liftedParent os started H enc F)

end Go.Proofs.YtfnncdngfggcjaaGreatDoor
