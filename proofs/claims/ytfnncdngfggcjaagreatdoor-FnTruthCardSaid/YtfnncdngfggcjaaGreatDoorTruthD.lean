/- FnTruth: the row's statement. -/
import Derived.Test.YtfnncdngfggcjaaGreatDoorTrC
import Derived.Test.YtfnncdngfggcjaaGreatDoorTruthF
namespace Go.Proofs.YtfnncdngfggcjaaGreatDoor
open Go.ChangeShapes Go.WideShapes Go.ChangeAt Go.RowKit Go.ChangeMaps

set_option maxRecDepth 100000 in
theorem saidTruth : Rows.FnTruthSaid :=
  OpenClaim.holds_of_cond 12 Tryz.f12 rfl rfl rfl rfl rfl rfl rfl ⟨rfl, rfl, rfl, rfl, rfl⟩ rfl rfl rfl rfl rfl namedTruth Tryz.func12 closedTruth instTruth wrapTruth
    (fun os started H enc _ F => by rw [OpenClaim.pre_eq_preRow]; exact liftedTruth os started H enc F)

end Go.Proofs.YtfnncdngfggcjaaGreatDoor
