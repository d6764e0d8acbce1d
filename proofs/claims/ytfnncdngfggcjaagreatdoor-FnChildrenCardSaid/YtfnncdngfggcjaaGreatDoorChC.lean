/- FnChildren: the row's step, the row's statement. -/
import Derived.Test.YtfnncdngfggcjaaGreatDoorChA
import Derived.Test.YtfnncdngfggcjaaGreatDoorTrC
namespace Go.Proofs.YtfnncdngfggcjaaGreatDoor
open Go.ChangeShapes Go.WideShapes Go.ChangeAt Go.RowKit Go.ChangeMaps

set_option maxRecDepth 100000 in
theorem laid_metChildren (os : Os) : laidMet Tryz.prog Rows.fnChildrenRow.laid ((laidWorld os).forCall (fun _ _ => 0) ⟨#[], #[.string es, .slice none 0 0], []⟩).memory :=
  laidMet_of_run' 8 (by kernel_rfl) (by kernel_rfl)
theorem readsChildren (os : Os) {H : Type} (enc : TypeId × Value → H) : ∃ places, DataW.whole enc Tryz.prog ((laidWorld os).forCall (fun _ _ => 0) ⟨#[], #[.string es, .slice none 0 0], []⟩).memory Tryz.f5.params.toList Rows.fnChildrenSpec.vars false #[Value.string es, .slice none 0 0].toList 8 = some ([.lit (.string []), .nil], [], places) :=
  ⟨[], by kernel_rfl⟩

set_option maxRecDepth 100000 in
theorem liftedChildren (os : Os) (started : os.Started) (H : Type) (enc : TypeId × Value → H) (F : Stop.Interp) :
    ReturnsInHanded {} Tryz.checked os 5 .any ((OpenSpec.ofChange Rows.fnChildrenSpec).preRow enc Tryz.prog Tryz.f5 Rows.fnChildrenRow.domain false Rows.fnChildrenRow.laid) (((OpenSpec.ofChange Rows.fnChildrenSpec).at F).post enc Tryz.prog Tryz.f5 false true false false) := by
  obtain ⟨places, hx⟩ := readsChildren os enc
  refine returnsInHanded_of_row (C := Tryz.checked) (s := OpenSpec.ofChange Rows.fnChildrenSpec) ownTryz started (by kernel_rfl) Tryz.func5
    (witness_row_at (enc := enc) (C := Tryz.checked) false (laidWorld os) #[.string es, .slice none 0 0] rfl (by kernel_rfl) (by kernel_rfl) (by kernel_rfl)
      (OpenSpec.preRow_of_cond 8 hx (by kernel_rfl) (fun k hk => by cases hk) (by kernel_rfl) (laid_metChildren os))) ?_
  intro W base args ds gs before hval hW _ _ _ hL _ _
  exact contractChildren H enc W base args ds gs before hval hW hL
end Go.Proofs.YtfnncdngfggcjaaGreatDoor
