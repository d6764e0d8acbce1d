/- FnIn: the row's step, the row's statement. -/
import Derived.Test.YtfnncdngfggcjaaGreatDoorInA
import Derived.Test.YtfnncdngfggcjaaGreatDoorTrC
namespace Go.Proofs.YtfnncdngfggcjaaGreatDoor
open Go.ChangeShapes Go.WideShapes Go.ChangeAt Go.RowKit Go.ChangeMaps

set_option maxRecDepth 100000 in
theorem laid_metIn (os : Os) : laidMet Tryz.prog Rows.fnInRow.laid ((laidWorld os).forCall (fun _ _ => 0) ⟨#[], #[.string es, .string es, .slice none 0 0], []⟩).memory :=
  laidMet_of_run' 8 (by kernel_rfl) (by kernel_rfl)
theorem readsIn (os : Os) {H : Type} (enc : TypeId × Value → H) : ∃ places, DataW.whole enc Tryz.prog ((laidWorld os).forCall (fun _ _ => 0) ⟨#[], #[.string es, .string es, .slice none 0 0], []⟩).memory Tryz.f13.params.toList Rows.fnInSpec.vars false #[Value.string es, .string es, .slice none 0 0].toList 8 = some ([.lit (.string []), .lit (.string []), .nil], [], places) :=
  ⟨[], by kernel_rfl⟩

set_option maxRecDepth 100000 in
theorem liftedIn (os : Os) (started : os.Started) (H : Type) (enc : TypeId × Value → H) (F : Stop.Interp) :
    ReturnsInHanded {} Tryz.checked os 13 .any ((OpenSpec.ofChange Rows.fnInSpec).preRow enc Tryz.prog Tryz.f13 Rows.fnInRow.domain false Rows.fnInRow.laid) (((OpenSpec.ofChange Rows.fnInSpec).at F).post enc Tryz.prog Tryz.f13 false true false false) := by
  obtain ⟨places, hx⟩ := readsIn os enc
  refine returnsInHanded_of_row (C := Tryz.checked) (s := OpenSpec.ofChange Rows.fnInSpec) ownTryz started (by kernel_rfl) Tryz.func13
    (witness_row_at (enc := enc) (C := Tryz.checked) false (laidWorld os) #[.string es, .string es, .slice none 0 0] rfl (by kernel_rfl) (by kernel_rfl) (by kernel_rfl)
      (OpenSpec.preRow_of_cond 8 hx (by kernel_rfl) (fun k hk => by cases hk) (by kernel_rfl) (laid_metIn os))) ?_
  intro W base args ds gs before hval hW _ _ _ hL _ _
  exact contractIn H enc W base args ds gs before hval hW hL
end Go.Proofs.YtfnncdngfggcjaaGreatDoor
