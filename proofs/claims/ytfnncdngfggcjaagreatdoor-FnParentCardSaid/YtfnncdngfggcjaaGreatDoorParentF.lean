/- FnParent: the row's closed facts. -/
import Derived.Test.YtfnncdngfggcjaaGreatDoorJf
namespace Go.Proofs.YtfnncdngfggcjaaGreatDoor
open Go.ChangeShapes Go.WideShapes Go.ChangeAt Go.RowKit Go.ChangeMaps

theorem jfParent1 : (Rows.fnParentRow.wf (OpenSpec.ofChange (OpenSpec.ofChange Rows.fnParentSpec).bare)) = true := by kernel_rfl
theorem jfParent4 : (Tryz.f4.params.all (Tryz.prog.readableRec ·)) = true := by kernel_rfl
theorem jfParent5 : (namedTie Tryz.prog Rows.fnParentRow.named (OpenSpec.ofChange Rows.fnParentSpec).bare.vars) = true := by kernel_rfl
theorem jfParent6 : ((Rows.fnParentRow.stops == [])) = true := by kernel_rfl
theorem jfParent8 : ((Rows.fnParentRow.knobs == [])) = true := by kernel_rfl
theorem jfParent10 : ((Rows.fnParentRow.inPlace == Tryz.prog.inPlace 4)) = true := by kernel_rfl
theorem jfParent11 : ((Rows.fnParentRow.unfollowed == Tryz.prog.unfollowed 4)) = true := by kernel_rfl
theorem jfParent12 : ((Rows.fnParentRow.recurses == Tryz.prog.recurses 4)) = true := by kernel_rfl
theorem jfParent13 : ((Rows.fnParentRow.named == Tryz.prog.varsNamed 4)) = true := by kernel_rfl
theorem jfParent14 : ((Rows.fnParentRow.maps == (Tryz.f4.params.toList ++ (OpenSpec.ofChange Rows.fnParentSpec).bare.plain.varTypes Tryz.prog).any (Tryz.prog.mapsRec ·))) = true := by kernel_rfl
theorem jfParent15 : ((Rows.fnParentRow.ifaces == (Tryz.f4.params.toList ++ (OpenSpec.ofChange Rows.fnParentSpec).bare.plain.varTypes Tryz.prog).any (Tryz.prog.ifacesRec ·))) = true := by kernel_rfl
theorem jfParent16 : ((Rows.fnParentRow.mapsOut == Tryz.prog.mapsAmong Tryz.f4.resultTypes.toList)) = true := by kernel_rfl
theorem jfParent17 : ((Rows.fnParentRow.loops == (Tryz.f4.params.toList ++ (OpenSpec.ofChange Rows.fnParentSpec).bare.plain.varTypes Tryz.prog).any (Tryz.prog.loopsFrom ·))) = true := by kernel_rfl
theorem jfParent18 : ((Rows.fnParentRow.wideKeys == (Tryz.f4.params.toList ++ (OpenSpec.ofChange Rows.fnParentSpec).bare.plain.varTypes Tryz.prog ++ Tryz.f4.resultTypes.toList).any (Tryz.prog.wideKeysFrom ·))) = true := by kernel_rfl
theorem jfParent19 : ((OpenSpec.ofChange Rows.fnParentSpec).bare.vars.all (Tryz.prog.varReadable ·)) = true := by kernel_rfl
theorem jfParent20 : (Tryz.f4.resultTypes.all (fun t => Tryz.prog.readableRec t && decide (t < Tryz.prog.types.size))) = true := by kernel_rfl
theorem jfParent21 : ((Rows.fnParentRow.ifacesOut == Tryz.f4.resultTypes.toList.any (Tryz.prog.ifacesRec ·))) = true := by kernel_rfl
theorem jfParent22 : ((Rows.fnParentRow.loopsOut == Tryz.f4.resultTypes.toList.any (Tryz.prog.loopsFrom ·))) = true := by kernel_rfl
theorem jfParent23 : ((Rows.fnParentRow.plainKeys == Tryz.prog.plainKeys)) = true := by rw [jfKeys]; kernel_rfl
theorem jfParent24 : (Rows.fnParentRow.shortTexts.isNone) = true := by kernel_rfl
theorem jfParent27 : ((Rows.fnParentRow.lifted == Tryz.prog.liftsFinal)) = true := by rw [jfLift]; kernel_rfl
theorem jfParent28 : ((Tryz.prog.make == some Rows.fnParentRow.make)) = true := by rw [jfMake]; kernel_rfl
theorem jfParent29 : ((Rows.fnParentRow.kinds == (if Rows.fnParentRow.domain.isEmpty then [] else Tryz.f4.params.toList.map fun t => match Tryz.prog.underlying t with | some (.int k) => some k | _ => none))) = true := by kernel_rfl
theorem jfParent30 : ((Rows.fnParentRow.pinned == Rows.fnParentRow.pinnedBy)) = true := by kernel_rfl
theorem jfParent31 : ((Rows.fnParentRow.veiled == (Tryz.f4.params.toList ++ (OpenSpec.ofChange Rows.fnParentSpec).bare.plain.varTypes Tryz.prog ++ Tryz.f4.resultTypes.toList).any (Tryz.prog.veiledRec ·))) = true := by kernel_rfl
theorem jfParent32 : (Rows.fnParentRow.veiledFits Tryz.prog Tryz.f4.params.toList (Tryz.f4.params.toList ++ (OpenSpec.ofChange Rows.fnParentSpec).bare.plain.varTypes Tryz.prog ++ Tryz.f4.resultTypes.toList)) = true := by kernel_rfl
set_option maxRecDepth 100000 in
theorem closedParent : joinedFacts Tryz.prog 4 Tryz.f4 (OpenSpec.ofChange Rows.fnParentSpec).bare Rows.fnParentRow = true :=
  joinedFacts_of jfParent1 jf2 jf3 jfParent4 jfParent5 jfParent6 jf7 jfParent8 jf9 jfParent10 jfParent11 jfParent12 jfParent13 jfParent14 jfParent15 jfParent16 jfParent17 jfParent18 jfParent19 jfParent20 jfParent21 jfParent22 jfParent23 jfParent24 jf25 jf26 jfParent27 jfParent28 jfParent29 jfParent30 jfParent31 jfParent32
set_option maxRecDepth 100000 in
theorem instParent : Tryz.f4.isInstance Tryz.prog Rows.fnParentRow.origin Rows.fnParentRow.targs := of_decide_eq_true (by kernel_rfl)
theorem wrapParent : Tryz.f4.isWrapper Tryz.prog Rows.fnParentRow.wrapper Rows.fnParentRow.mainSum := by
  unfold Func.isWrapper
  rw [if_neg (of_decide_eq_false (by kernel_rfl))]
  exact ⟨rfl, rfl⟩
theorem namedParent : Tryz.prog.funcNamed Rows.fnParentRow.func = some 4 := by kernel_rfl

end Go.Proofs.YtfnncdngfggcjaaGreatDoor
