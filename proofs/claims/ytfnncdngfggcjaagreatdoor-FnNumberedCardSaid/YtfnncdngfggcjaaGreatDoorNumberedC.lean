/- FnNumbered: the row's step. -/
import Derived.Test.YtfnncdngfggcjaaGreatDoorNumberedA
import Derived.Test.YtfnncdngfggcjaaGreatDoorTrC
namespace Go.Proofs.YtfnncdngfggcjaaGreatDoor
open Go.ChangeShapes Go.WideShapes Go.ChangeAt Go.RowKit Go.ChangeMaps

set_option maxRecDepth 100000 in
theorem laid_metNumbered (os : Os) : laidMet Tryz.prog Rows.fnNumberedRow.laid ((laidWorld5 os).forCall (fun _ _ => 0) ⟨#[], #[.slice none 0 0], []⟩).memory :=
  laidMet_of_run' 8 (by kernel_rfl) (by kernel_rfl)
theorem readsNumbered (os : Os) {H : Type} (enc : TypeId × Value → H) : ∃ places, DataW.whole enc Tryz.prog ((laidWorld5 os).forCall (fun _ _ => 0) ⟨#[], #[.slice none 0 0], []⟩).memory Tryz.f8.params.toList Rows.fnNumberedSpec.vars false #[Value.slice none 0 0].toList 8 = some ([.nil], [], places) :=
  ⟨[], by kernel_rfl⟩

set_option maxRecDepth 100000 in
theorem liftedNumbered (os : Os) (started : os.Started) (H : Type) (enc : TypeId × Value → H) (F : Stop.Interp) :
    ReturnsInHanded {} Tryz.checked os 8 .any ((OpenSpec.ofChange Rows.fnNumberedSpec).preRow enc Tryz.prog Tryz.f8 Rows.fnNumberedRow.domain false Rows.fnNumberedRow.laid) (((OpenSpec.ofChange Rows.fnNumberedSpec).at F).post enc Tryz.prog Tryz.f8 false true false false) := by
  obtain ⟨places, hx⟩ := readsNumbered os enc
  refine returnsInHanded_of_row (C := Tryz.checked) (s := OpenSpec.ofChange Rows.fnNumberedSpec) ownTryz started (by kernel_rfl) Tryz.func8
    (witness_row_at (enc := enc) (C := Tryz.checked) false (laidWorld5 os) #[.slice none 0 0] rfl (by kernel_rfl) (by kernel_rfl) (by kernel_rfl)
      (OpenSpec.preRow_of_cond 8 hx (by kernel_rfl) (fun k hk => by cases hk) (by kernel_rfl) (laid_metNumbered os))) ?_
  intro W base args ds gs before hval hW _ _ _ hL _ _
  exact contractNumbered H enc W base args ds gs before hval hW hL
end Go.Proofs.YtfnncdngfggcjaaGreatDoor
