/- FnStrings: the row's step. -/
import Derived.Test.YtfnncdngfggcjaaGreatDoorStringsA
import Derived.Test.YtfnncdngfggcjaaGreatDoorTrC
namespace Go.Proofs.YtfnncdngfggcjaaGreatDoor
open Go.ChangeShapes Go.WideShapes Go.ChangeAt Go.RowKit Go.ChangeMaps

set_option maxRecDepth 100000 in
theorem laid_metStrings (os : Os) : laidMet Tryz.prog Rows.fnStringsRow.laid ((laidWorld5 os).forCall (fun _ _ => 0) ⟨#[], #[.slice none 0 0, .bool false], []⟩).memory :=
  laidMet_of_run' 8 (by kernel_rfl) (by kernel_rfl)
theorem readsStrings (os : Os) {H : Type} (enc : TypeId × Value → H) : ∃ places, DataW.whole enc Tryz.prog ((laidWorld5 os).forCall (fun _ _ => 0) ⟨#[], #[.slice none 0 0, .bool false], []⟩).memory Tryz.f14.params.toList Rows.fnStringsSpec.vars false #[Value.slice none 0 0, .bool false].toList 8 = some ([.nil, .lit (.bool false)], [], places) :=
  ⟨[], by kernel_rfl⟩

set_option maxRecDepth 100000 in
theorem liftedStrings (os : Os) (started : os.Started) (H : Type) (enc : TypeId × Value → H) (F : Stop.Interp) :
    ReturnsInHanded {} Tryz.checked os 14 .any ((OpenSpec.ofChange Rows.fnStringsSpec).preRow enc Tryz.prog Tryz.f14 Rows.fnStringsRow.domain false Rows.fnStringsRow.laid) (((OpenSpec.ofChange Rows.fnStringsSpec).at F).post enc Tryz.prog Tryz.f14 false true false false) := by
  obtain ⟨places, hx⟩ := readsStrings os enc
  refine returnsInHanded_of_row (C := Tryz.checked) (s := OpenSpec.ofChange Rows.fnStringsSpec) ownTryz started (by kernel_rfl) Tryz.func14
    (witness_row_at (enc := enc) (C := Tryz.checked) false (laidWorld5 os) #[.slice none 0 0, .bool false] rfl (by kernel_rfl) (by kernel_rfl) (by kernel_rfl)
      (OpenSpec.preRow_of_cond 8 hx (by kernel_rfl) (fun k hk => by cases hk) (by kernel_rfl) (laid_metStrings os))) ?_
  intro W base args ds gs before hval hW _ _ _ hL _ _
  exact contractStrings H enc W base args ds gs before hval hW hL
end Go.Proofs.YtfnncdngfggcjaaGreatDoor
