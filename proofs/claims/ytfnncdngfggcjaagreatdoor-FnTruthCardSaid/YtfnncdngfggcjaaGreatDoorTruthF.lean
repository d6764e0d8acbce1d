/- FnTruth: the row's closed facts. -/
import Derived.Test.YtfnncdngfggcjaaGreatDoorJf
namespace Go.Proofs.YtfnncdngfggcjaaGreatDoor
open Go.ChangeShapes Go.WideShapes Go.ChangeAt Go.RowKit Go.ChangeMaps

theorem jfTruth1 : (Rows.fnTruthRow.wf (OpenSpec.ofChange (OpenSpec.ofChange Rows.fnTruthSpec).bare)) = true := by kernel_rfl
theorem jfTruth4 : (Tryz.f12.params.all (Tryz.prog.readableRec ·)) = true := by kernel_rfl
theorem jfTruth5 : (namedTie Tryz.prog Rows.fnTruthRow.named (OpenSpec.ofChange Rows.fnTruthSpec).bare.vars) = true := by kernel_rfl
theorem jfTruth6 : ((Rows.fnTruthRow.stops == [])) = true := by kernel_rfl
theorem jfTruth8 : ((Rows.fnTruthRow.knobs == [])) = true := by kernel_rfl
theorem jfTruth10 : ((Rows.fnTruthRow.inPlace == Tryz.prog.inPlace 12)) = true := by kernel_rfl
theorem jfTruth11 : ((Rows.fnTruthRow.unfollowed == Tryz.prog.unfollowed 12)) = true := by kernel_rfl
theorem jfTruth12 : ((Rows.fnTruthRow.recurses == Tryz.prog.recurses 12)) = true := by kernel_rfl
theorem jfTruth13 : ((Rows.fnTruthRow.named == Tryz.prog.varsNamed 12)) = true := by kernel_rfl
theorem jfTruth14 : ((Rows.fnTruthRow.maps == (Tryz.f12.params.toList ++ (OpenSpec.ofChange Rows.fnTruthSpec).bare.plain.varTypes Tryz.prog).any (Tryz.prog.mapsRec ·))) = true := by kernel_rfl
theorem jfTruth15 : ((Rows.fnTruthRow.ifaces == (Tryz.f12.params.toList ++ (OpenSpec.ofChange Rows.fnTruthSpec).bare.plain.varTypes Tryz.prog).any (Tryz.prog.ifacesRec ·))) = true := by kernel_rfl
theorem jfTruth16 : ((Rows.fnTruthRow.mapsOut == Tryz.prog.mapsAmong Tryz.f12.resultTypes.toList)) = true := by kernel_rfl
theorem jfTruth17 : ((Rows.fnTruthRow.loops == (Tryz.f12.params.toList ++ (OpenSpec.ofChange Rows.fnTruthSpec).bare.plain.varTypes Tryz.prog).any (Tryz.prog.loopsFrom ·))) = true := by kernel_rfl
theorem jfTruth18 : ((Rows.fnTruthRow.wideKeys == (Tryz.f12.params.toList ++ (OpenSpec.ofChange Rows.fnTruthSpec).bare.plain.varTypes Tryz.prog ++ Tryz.f12.resultTypes.toList).any (Tryz.prog.wideKeysFrom ·))) = true := by kernel_rfl
theorem jfTruth19 : ((OpenSpec.ofChange Rows.fnTruthSpec).bare.vars.all (Tryz.prog.varReadable ·)) = true := by kernel_rfl
theorem jfTruth20 : (Tryz.f12.resultTypes.all (fun t => Tryz.prog.readableRec t && decide (t < Tryz.prog.types.size))) = true := by kernel_rfl
theorem jfTruth21 : ((Rows.fnTruthRow.ifacesOut == Tryz.f12.resultTypes.toList.any (Tryz.prog.ifacesRec ·))) = true := by kernel_rfl
theorem jfTruth22 : ((Rows.fnTruthRow.loopsOut == Tryz.f12.resultTypes.toList.any (Tryz.prog.loopsFrom ·))) = true := by kernel_rfl
theorem jfTruth23 : ((Rows.fnTruthRow.plainKeys == Tryz.prog.plainKeys)) = true := by rw [jfKeys]; kernel_rfl
theorem jfTruth24 : (Rows.fnTruthRow.shortTexts.isNone) = true := by kernel_rfl
theorem jfTruth27 : ((Rows.fnTruthRow.lifted == Tryz.prog.liftsFinal)) = true := by rw [jfLift]; kernel_rfl
theorem jfTruth28 : ((Tryz.prog.make == some Rows.fnTruthRow.make)) = true := by rw [jfMake]; kernel_rfl
theorem jfTruth29 : ((Rows.fnTruthRow.kinds == (if Rows.fnTruthRow.domain.isEmpty then [] else Tryz.f12.params.toList.map fun t => match Tryz.prog.underlying t with | some (.int k) => some k | _ => none))) = true := by kernel_rfl
theorem jfTruth30 : ((Rows.fnTruthRow.pinned == Rows.fnTruthRow.pinnedBy)) = true := by kernel_rfl
theorem jfTruth31 : ((Rows.fnTruthRow.veiled == (Tryz.f12.params.toList ++ (OpenSpec.ofChange Rows.fnTruthSpec).bare.plain.varTypes Tryz.prog ++ Tryz.f12.resultTypes.toList).any (Tryz.prog.veiledRec ·))) = true := by kernel_rfl
theorem jfTruth32 : (Rows.fnTruthRow.veiledFits Tryz.prog Tryz.f12.params.toList (Tryz.f12.params.toList ++ (OpenSpec.ofChange Rows.fnTruthSpec).bare.plain.varTypes Tryz.prog ++ Tryz.f12.resultTypes.toList)) = true := by kernel_rfl
set_option maxRecDepth 100000 in
theorem closedTruth : joinedFacts Tryz.prog 12 Tryz.f12 (OpenSpec.ofChange Rows.fnTruthSpec).bare Rows.fnTruthRow = true :=
  joinedFacts_of jfTruth1 jf2 jf3 jfTruth4 jfTruth5 jfTruth6 jf7 jfTruth8 jf9 jfTruth10 jfTruth11 jfTruth12 jfTruth13 jfTruth14 jfTruth15 jfTruth16 jfTruth17 jfTruth18 jfTruth19 jfTruth20 jfTruth21 jfTruth22 jfTruth23 jfTruth24 jf25 jf26 jfTruth27 jfTruth28 jfTruth29 jfTruth30 jfTruth31 jfTruth32
set_option maxRecDepth 100000 in
theorem instTruth : Tryz.f12.isInstance Tryz.prog Rows.fnTruthRow.origin Rows.fnTruthRow.targs := of_decide_eq_true (by kernel_rfl)
theorem wrapTruth : Tryz.f12.isWrapper Tryz.prog Rows.fnTruthRow.wrapper Rows.fnTruthRow.mainSum := by
  unfold Func.isWrapper
  rw [if_neg (of_decide_eq_false (by kernel_rfl))]
  exact ⟨rfl, rfl⟩
theorem namedTruth : Tryz.prog.funcNamed Rows.fnTruthRow.func = some 12 := by kernel_rfl

end Go.Proofs.YtfnncdngfggcjaaGreatDoor
