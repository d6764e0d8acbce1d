/- FnTwice: the row's step. -/
import Derived.Test.YtfnncdngfggcjaaGreatDoorTwiceA
import Derived.Test.YtfnncdngfggcjaaGreatDoorTrC
namespace Go.Proofs.YtfnncdngfggcjaaGreatDoor
open Go.ChangeShapes Go.WideShapes Go.ChangeAt Go.RowKit Go.ChangeMaps

set_option maxRecDepth 100000 in
theorem laid_metTwice (os : Os) : laidMet Tryz.prog Rows.fnTwiceRow.laid ((laidWorld5 os).forCall (fun _ _ => 0) ⟨#[], #[.string es, .string es, .string es], []⟩).memory :=
  laidMet_of_run' 8 (by kernel_rfl) (by kernel_rfl)
theorem readsTwice (os : Os) {H : Type} (enc : TypeId × Value → H) : ∃ places, DataW.whole enc Tryz.prog ((laidWorld5 os).forCall (fun _ _ => 0) ⟨#[], #[.string es, .string es, .string es], []⟩).memory Tryz.f10.params.toList Rows.fnTwiceSpec.vars false #[Value.string es, .string es, .string es].toList 8 = some ([.lit (.string []), .lit (.string []), .lit (.string [])], [], places) :=
  ⟨[], by kernel_rfl⟩

set_option maxRecDepth 100000 in
theorem liftedTwice (os : Os) (started : os.Started) (H : Type) (enc : TypeId × Value → H) (F : Stop.Interp) :
    ReturnsInHanded {} Tryz.checked os 10 .any ((OpenSpec.ofChange Rows.fnTwiceSpec).preRow enc Tryz.prog Tryz.f10 Rows.fnTwiceRow.domain false Rows.fnTwiceRow.laid) (((OpenSpec.ofChange Rows.fnTwiceSpec).at F).post enc Tryz.prog Tryz.f10 false true false false) := by
  obtain ⟨places, hx⟩ := readsTwice os enc
  refine returnsInHanded_of_row (C := Tryz.checked) (s := OpenSpec.ofChange Rows.fnTwiceSpec) ownTryz started (by kernel_rfl) Tryz.func10
    (witness_row_at (enc := enc) (C := Tryz.checked) false (laidWorld5 os) #[.string es, .string es, .string es] rfl (by kernel_rfl) (by kernel_rfl) (by kernel_rfl)
      (OpenSpec.preRow_of_cond 8 hx (by kernel_rfl) (fun k hk => by cases hk) (by kernel_rfl) (laid_metTwice os))) ?_
  intro W base args ds gs before hval hW _ _ _ hL _ _
  exact contractTwice H enc W base args ds gs before hval hW hL
end Go.Proofs.YtfnncdngfggcjaaGreatDoor
