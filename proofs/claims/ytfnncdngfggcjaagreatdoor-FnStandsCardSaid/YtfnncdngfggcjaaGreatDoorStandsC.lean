/- FnStands: the row's step. -/
import Derived.Test.YtfnncdngfggcjaaGreatDoorStandsA
import Derived.Test.YtfnncdngfggcjaaGreatDoorTrC
namespace Go.Proofs.YtfnncdngfggcjaaGreatDoor
open Go.ChangeShapes Go.WideShapes Go.ChangeAt Go.RowKit Go.ChangeMaps

set_option maxRecDepth 100000 in
theorem laid_metStands (os : Os) : laidMet Tryz.prog Rows.fnStandsRow.laid ((laidWorld5 os).forCall (fun _ _ => 0) ⟨#[], #[.string es, .string es, .string es, .bool false, .string es, .string es], []⟩).memory :=
  laidMet_of_run' 8 (by kernel_rfl) (by kernel_rfl)
theorem readsStands (os : Os) {H : Type} (enc : TypeId × Value → H) : ∃ places, DataW.whole enc Tryz.prog ((laidWorld5 os).forCall (fun _ _ => 0) ⟨#[], #[.string es, .string es, .string es, .bool false, .string es, .string es], []⟩).memory Tryz.f11.params.toList Rows.fnStandsSpec.vars false #[Value.string es, .string es, .string es, .bool false, .string es, .string es].toList 8 = some ([.lit (.string []), .lit (.string []), .lit (.string []), .lit (.bool false), .lit (.string []), .lit (.string [])], [], places) :=
  ⟨[], by kernel_rfl⟩

set_option maxRecDepth 100000 in
theorem liftedStands (os : Os) (started : os.Started) (H : Type) (enc : TypeId × Value → H) (F : Stop.Interp) :
    ReturnsInHanded {} Tryz.checked os 11 .any ((OpenSpec.ofChange Rows.fnStandsSpec).preRow enc Tryz.prog Tryz.f11 Rows.fnStandsRow.domain false Rows.fnStandsRow.laid) (((OpenSpec.ofChange Rows.fnStandsSpec).at F).post enc Tryz.prog Tryz.f11 false true false false) := by
  obtain ⟨places, hx⟩ := readsStands os enc
  refine returnsInHanded_of_row (C := Tryz.checked) (s := OpenSpec.ofChange Rows.fnStandsSpec) ownTryz started (by kernel_rfl) Tryz.func11
    (witness_row_at (enc := enc) (C := Tryz.checked) false (laidWorld5 os) #[.string es, .string es, .string es, .bool false, .string es, .string es] rfl (by kernel_rfl) (by kernel_rfl) (by kernel_rfl)
      (OpenSpec.preRow_of_cond 8 hx (by kernel_rfl) (fun k hk => by cases hk) (by kernel_rfl) (laid_metStands os))) ?_
  intro W base args ds gs before hval hW _ _ _ hL _ _
  exact contractStands H enc W base args ds gs before hval hW hL
end Go.Proofs.YtfnncdngfggcjaaGreatDoor
