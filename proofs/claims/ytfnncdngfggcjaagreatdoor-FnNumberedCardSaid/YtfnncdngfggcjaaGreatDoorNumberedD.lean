/- FnNumbered: the row's statement. -/
import Derived.Test.YtfnncdngfggcjaaGreatDoorNumberedC
import Derived.Test.YtfnncdngfggcjaaGreatDoorNumberedF
namespace Go.Proofs.YtfnncdngfggcjaaGreatDoor
open Go.ChangeShapes Go.WideShapes Go.ChangeAt Go.RowKit Go.ChangeMaps

set_option maxRecDepth 100000 in
theorem saidNumbered : Rows.FnNumberedSaid :=
  OpenClaim.holds_of_cond 8 Tryz.f8 rfl rfl rfl rfl rfl rfl rfl ⟨rfl, rfl, rfl, rfl, rfl⟩ rfl rfl rfl rfl rfl namedNumbered Tryz.func8 closedNumbered instNumbered wrapNumbered
    (fun os started H enc _ F => by rw [OpenClaim.pre_eq_preRow]; exact liftedNumbered os started H enc F)

end Go.Proofs.YtfnncdngfggcjaaGreatDoor
