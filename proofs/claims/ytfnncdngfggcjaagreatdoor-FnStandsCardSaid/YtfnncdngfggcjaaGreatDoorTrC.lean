/- FnTruth: the row's step. -/
import Derived.Test.YtfnncdngfggcjaaGreatDoorTrA
import Derived.Test.YtfnncdngfggcjaaGreatDoorTrB
import Derived.ProofKit
import Derived.OpenShut
import Derived.Deep.DeepHandedRow
import Derived.ChangeMaps5
namespace Go.Proofs.YtfnncdngfggcjaaGreatDoor
open Go.ChangeShapes Go.WideShapes Go.ChangeAt Go.RowKit Go.ChangeMaps

theorem ownTryz : ownKnob Tryz.prog.godebug = none := by kernel_rfl

set_option maxRecDepth 100000 in
theorem liftedTruth (os : Os) (started : os.Started) (H : Type) (enc : TypeId × Value → H) (F : Stop.Interp) :
    ReturnsInHanded {} Tryz.checked os 12 .any ((OpenSpec.ofChange Rows.fnTruthSpec).preRow enc Tryz.prog Tryz.f12 Rows.fnTruthRow.domain false Rows.fnTruthRow.laid) (((OpenSpec.ofChange Rows.fnTruthSpec).at F).post enc Tryz.prog Tryz.f12 false true false false) := by
  obtain ⟨places, hx⟩ := readsTruth os enc
  refine returnsInHanded_of_row (C := Tryz.checked) (s := OpenSpec.ofChange Rows.fnTruthSpec) ownTryz started (by kernel_rfl) Tryz.func12
    (witness_row_at (enc := enc) (C := Tryz.checked) false (laidWorld os) #[.string es] rfl (by kernel_rfl) (by kernel_rfl) (by kernel_rfl)
      (OpenSpec.preRow_of_cond 8 hx (by kernel_rfl) (fun k hk => by cases hk) (by kernel_rfl) (laid_metTruth os))) ?_
  intro W base args ds gs before hval hW _ _ _ hL _ _
  exact contractTruth H enc W base args ds gs before hval hW hL

end Go.Proofs.YtfnncdngfggcjaaGreatDoor
