/- FnChildren: the row's closed facts. -/
import Derived.Test.YtfnncdngfggcjaaGreatDoorJf
namespace Go.Proofs.YtfnncdngfggcjaaGreatDoor
open Go.ChangeShapes Go.WideShapes Go.ChangeAt Go.RowKit Go.ChangeMaps

theorem jfChildren1 : (Rows.fnChildrenRow.wf (OpenSpec.ofChange (OpenSpec.ofChange Rows.fnChildrenSpec).bare)) = true := by kernel_rfl
theorem jfChildren4 : (Tryz.f5.params.all (Tryz.prog.readableRec ·)) = true := by kernel_rfl
theorem jfChildren5 : (namedTie Tryz.prog Rows.fnChildrenRow.named (OpenSpec.ofChange Rows.fnChildrenSpec).bare.vars) = true := by kernel_rfl
theorem jfChildren6 : ((Rows.fnChildrenRow.stops == [])) = true := by kernel_rfl
theorem jfChildren8 : ((Rows.fnChildrenRow.knobs == [])) = true := by kernel_rfl
theorem jfChildren10 : ((Rows.fnChildrenRow.inPlace == Tryz.prog.inPlace 5)) = true := by kernel_rfl
theorem jfChildren11 : ((Rows.fnChildrenRow.unfollowed == Tryz.prog.unfollowed 5)) = true := by kernel_rfl
theorem jfChildren12 : ((Rows.fnChildrenRow.recurses == Tryz.prog.recurses 5)) = true := by kernel_rfl
theorem jfChildren13 : ((Rows.fnChildrenRow.named == Tryz.prog.varsNamed 5)) = true := by kernel_rfl
theorem jfChildren14 : ((Rows.fnChildrenRow.maps == (Tryz.f5.params.toList ++ (OpenSpec.ofChange Rows.fnChildrenSpec).bare.plain.varTypes Tryz.prog).any (Tryz.prog.mapsRec ·))) = true := by kernel_rfl
theorem jfChildren15 : ((Rows.fnChildrenRow.ifaces == (Tryz.f5.params.toList ++ (OpenSpec.ofChange Rows.fnChildrenSpec).bare.plain.varTypes Tryz.prog).any (Tryz.prog.ifacesRec ·))) = true := by kernel_rfl
theorem jfChildren16 : ((Rows.fnChildrenRow.mapsOut == Tryz.prog.mapsAmong Tryz.f5.resultTypes.toList)) = true := by kernel_rfl
theorem jfChildren17 : ((Rows.fnChildrenRow.loops == (Tryz.f5.params.toList ++ (OpenSpec.ofChange Rows.fnChildrenSpec).bare.plain.varTypes Tryz.prog).any (Tryz.prog.loopsFrom ·))) = true := by kernel_rfl
theorem jfChildren18 : ((Rows.fnChildrenRow.wideKeys == (Tryz.f5.params.toList ++ (OpenSpec.ofChange Rows.fnChildrenSpec).bare.plain.varTypes Tryz.prog ++ Tryz.f5.resultTypes.toList).any (Tryz.prog.wideKeysFrom ·))) = true := by kernel_rfl
theorem jfChildren19 : ((OpenSpec.ofChange Rows.fnChildrenSpec).bare.vars.all (Tryz.prog.varReadable ·)) = true := by kernel_rfl
theorem jfChildren20 : (Tryz.f5.resultTypes.all (fun t => Tryz.prog.readableRec t && decide (t < Tryz.prog.types.size))) = true := by kernel_rfl
theorem jfChildren21 : ((Rows.fnChildrenRow.ifacesOut == Tryz.f5.resultTypes.toList.any (Tryz.prog.ifacesRec ·))) = true := by kernel_rfl
theorem jfChildren22 : ((Rows.fnChildrenRow.loopsOut == Tryz.f5.resultTypes.toList.any (Tryz.prog.loopsFrom ·))) = true := by kernel_rfl
theorem jfChildren23 : ((Rows.fnChildrenRow.plainKeys == Tryz.prog.plainKeys)) = true := by rw [jfKeys]; kernel_rfl
theorem jfChildren24 : (Rows.fnChildrenRow.shortTexts.isNone) = true := by kernel_rfl
theorem jfChildren27 : ((Rows.fnChildrenRow.lifted == Tryz.prog.liftsFinal)) = true := by rw [jfLift]; kernel_rfl
theorem jfChildren28 : ((Tryz.prog.make == some Rows.fnChildrenRow.make)) = true := by rw [jfMake]; kernel_rfl
theorem jfChildren29 : ((Rows.fnChildrenRow.kinds == (if Rows.fnChildrenRow.domain.isEmpty then [] else Tryz.f5.params.toList.map fun t => match Tryz.prog.underlying t with | some (.int k) => some k | _ => none))) = true := by kernel_rfl
theorem jfChildren30 : ((Rows.fnChildrenRow.pinned == Rows.fnChildrenRow.pinnedBy)) = true := by kernel_rfl
theorem jfChildren31 : ((Rows.fnChildrenRow.veiled == (Tryz.f5.params.toList ++ (OpenSpec.ofChange Rows.fnChildrenSpec).bare.plain.varTypes Tryz.prog ++ Tryz.f5.resultTypes.toList).any (Tryz.prog.veiledRec ·))) = true := by kernel_rfl
theorem jfChildren32 : (Rows.fnChildrenRow.veiledFits Tryz.prog Tryz.f5.params.toList (Tryz.f5.params.toList ++ (OpenSpec.ofChange Rows.fnChildrenSpec).bare.plain.varTypes Tryz.prog ++ Tryz.f5.resultTypes.toList)) = true := by kernel_rfl
set_option maxRecDepth 100000 in
theorem closedChildren : joinedFacts Tryz.prog 5 Tryz.f5 (OpenSpec.ofChange Rows.fnChildrenSpec).bare Rows.fnChildrenRow = true :=
  joinedFacts_of jfChildren1 jf2 jf3 jfChildren4 jfChildren5 jfChildren6 jf7 jfChildren8 jf9 jfChildren10 jfChildren11 jfChildren12 jfChildren13 jfChildren14 jfChildren15 jfChildren16 jfChildren17 jfChildren18 jfChildren19 jfChildren20 jfChildren21 jfChildren22 jfChildren23 jfChildren24 jf25 jf26 jfChildren27 jfChildren28 jfChildren29 jfChildren30 jfChildren31 jfChildren32
set_option maxRecDepth 100000 in
theorem instChildren : Tryz.f5.isInstance Tryz.prog Rows.fnChildrenRow.origin Rows.fnChildrenRow.targs := of_decide_eq_true (by kernel_rfl)
theorem wrapChildren : Tryz.f5.isWrapper Tryz.prog Rows.fnChildrenRow.wrapper Rows.fnChildrenRow.mainSum := by
  unfold Func.isWrapper
  rw [if_neg (of_decide_eq_false (by kernel_rfl))]
  exact ⟨rfl, rfl⟩
theorem namedChildren : Tryz.prog.funcNamed Rows.fnChildrenRow.func = some 5 := by kernel_rfl

end Go.Proofs.YtfnncdngfggcjaaGreatDoor
