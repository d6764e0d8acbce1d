/- FnParent: the row's step, the row's statement. -/
import Derived.Test.YtfnncdngfggcjaaGreatDoorPtA
import Derived.Test.YtfnncdngfggcjaaGreatDoorTrC
namespace Go.Proofs.YtfnncdngfggcjaaGreatDoor
open Go.ChangeShapes Go.WideShapes Go.ChangeAt Go.RowKit Go.ChangeMaps

set_option maxRecDepth 100000 in
theorem laid_metParent (os : Os) : laidMet Tryz.prog Rows.fnParentRow.laid ((laidWorld5 os).forCall (fun _ _ => 0) ⟨#[], #[.string es, .string es, .string es, .string es, .string es, .int .i64 0], []⟩).memory :=
  laidMet_of_run' 8 (by kernel_rfl) (by kernel_rfl)
theorem readsParent (os : Os) {H : Type} (enc : TypeId × Value → H) : ∃ places, DataW.whole enc Tryz.prog ((laidWorld5 os).forCall (fun _ _ => 0) ⟨#[], #[.string es, .string es, .string es, .string es, .string es, .int .i64 0], []⟩).memory Tryz.f4.params.toList Rows.fnParentSpec.vars false #[Value.string es, .string es, .string es, .string es, .string es, .int .i64 0].toList 8 = some ([.lit (.string []), .lit (.string []), .lit (.string []), .lit (.string []), .lit (.string []), .lit (.int .i64 0)], [], places) :=
  ⟨[], by kernel_rfl⟩

set_option maxRecDepth 100000 in
theorem liftedParent (os : Os) (started : os.Started) (H : Type) (enc : TypeId × Value → H) (F : Stop.Interp) :
    ReturnsInHanded {} Tryz.checked os 4 .any ((OpenSpec.ofChange Rows.fnParentSpec).preRow enc Tryz.prog Tryz.f4 Rows.fnParentRow.domain false Rows.fnParentRow.laid) (((OpenSpec.ofChange Rows.fnParentSpec).at F).post enc Tryz.prog Tryz.f4 false true false false) := by
  obtain ⟨places, hx⟩ := readsParent os enc
  refine returnsInHanded_of_row (C := Tryz.checked) (s := OpenSpec.ofChange Rows.fnParentSpec) ownTryz started (by kernel_rfl) Tryz.func4
    (witness_row_at (enc := enc) (C := Tryz.checked) false (laidWorld5 os) #[.string es, .string es, .string es, .string es, .string es, .int .i64 0] rfl (by kernel_rfl) (by kernel_rfl) (by kernel_rfl)
      (OpenSpec.preRow_of_cond 8 hx (by kernel_rfl) (fun k hk => by cases hk) (by kernel_rfl) (laid_metParent os))) ?_
  intro W base args ds gs before hval hW _ _ _ hL _ _
  exact contractParent H enc W base args ds gs before hval hW hL
end Go.Proofs.YtfnncdngfggcjaaGreatDoor
