/- FnTwice: the row's statement. -/
import Derived.Test.YtfnncdngfggcjaaGreatDoorTwiceC
import Derived.Test.YtfnncdngfggcjaaGreatDoorTwiceF
namespace Go.Proofs.YtfnncdngfggcjaaGreatDoor
open Go.ChangeShapes Go.WideShapes Go.ChangeAt Go.RowKit Go.ChangeMaps

set_option maxRecDepth 100000 in
theorem saidTwice : Rows.FnTwiceSaid :=
  OpenClaim.holds_of_cond 10 Tryz.f10 rfl rfl rfl rfl rfl rfl rfl ⟨rfl, rfl, rfl, rfl, rfl⟩ rfl rfl rfl rfl rfl namedTwice Tryz.func10 closedTwice instTwice wrapTwice
    (fun os started H enc _ F => by rw [OpenClaim.pre_eq_preRow]; exact liftedTwice os started H enc F)

end Go.Proofs.YtfnncdngfggcjaaGreatDoor
