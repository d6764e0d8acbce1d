/- FnChildren: the row's statement. -/
import Derived.Test.YtfnncdngfggcjaaGreatDoorChC
import Derived.Test.YtfnncdngfggcjaaGreatDoorChildrenF
namespace Go.Proofs.YtfnncdngfggcjaaGreatDoor
open Go.ChangeShapes Go.WideShapes Go.ChangeAt Go.RowKit Go.ChangeMaps

set_option maxRecDepth 100000 in
theorem saidChildren : Rows.FnChildrenSaid :=
  OpenClaim.holds_of_cond 5 Tryz.f5 rfl rfl rfl rfl rfl rfl rfl ⟨rfl, rfl, rfl, rfl, rfl⟩ rfl rfl rfl rfl rfl namedChildren Tryz.func5 closedChildren instChildren wrapChildren
    (fun os started H enc _ F => by rw [OpenClaim.pre_eq_preRow]; exact liftedChildren os started H enc F)

end Go.Proofs.YtfnncdngfggcjaaGreatDoor
