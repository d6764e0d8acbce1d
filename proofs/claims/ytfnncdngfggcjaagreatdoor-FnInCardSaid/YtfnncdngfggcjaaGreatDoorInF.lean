/- FnIn: the row's closed facts. -/
import Derived.Test.YtfnncdngfggcjaaGreatDoorJf
namespace Go.Proofs.YtfnncdngfggcjaaGreatDoor
open Go.ChangeShapes Go.WideShapes Go.ChangeAt Go.RowKit Go.ChangeMaps

theorem jfIn1 : (Rows.fnInRow.wf (OpenSpec.ofChange (OpenSpec.ofChange Rows.fnInSpec).bare)) = true := by kernel_rfl
theorem jfIn4 : (Tryz.f13.params.all (Tryz.prog.readableRec ·)) = true := by kernel_rfl
theorem jfIn5 : (namedTie Tryz.prog Rows.fnInRow.named (OpenSpec.ofChange Rows.fnInSpec).bare.vars) = true := by kernel_rfl
theorem jfIn6 : ((Rows.fnInRow.stops == [])) = true := by kernel_rfl
theorem jfIn8 : ((Rows.fnInRow.knobs == [])) = true := by kernel_rfl
theorem jfIn10 : ((Rows.fnInRow.inPlace == Tryz.prog.inPlace 13)) = true := by kernel_rfl
theorem jfIn11 : ((Rows.fnInRow.unfollowed == Tryz.prog.unfollowed 13)) = true := by kernel_rfl
theorem jfIn12 : ((Rows.fnInRow.recurses == Tryz.prog.recurses 13)) = true := by kernel_rfl
theorem jfIn13 : ((Rows.fnInRow.named == Tryz.prog.varsNamed 13)) = true := by kernel_rfl
theorem jfIn14 : ((Rows.fnInRow.maps == (Tryz.f13.params.toList ++ (OpenSpec.ofChange Rows.fnInSpec).bare.plain.varTypes Tryz.prog).any (Tryz.prog.mapsRec ·))) = true := by kernel_rfl
theorem jfIn15 : ((Rows.fnInRow.ifaces == (Tryz.f13.params.toList ++ (OpenSpec.ofChange Rows.fnInSpec).bare.plain.varTypes Tryz.prog).any (Tryz.prog.ifacesRec ·))) = true := by kernel_rfl
theorem jfIn16 : ((Rows.fnInRow.mapsOut == Tryz.prog.mapsAmong Tryz.f13.resultTypes.toList)) = true := by kernel_rfl
theorem jfIn17 : ((Rows.fnInRow.loops == (Tryz.f13.params.toList ++ (OpenSpec.ofChange Rows.fnInSpec).bare.plain.varTypes Tryz.prog).any (Tryz.prog.loopsFrom ·))) = true := by kernel_rfl
theorem jfIn18 : ((Rows.fnInRow.wideKeys == (Tryz.f13.params.toList ++ (OpenSpec.ofChange Rows.fnInSpec).bare.plain.varTypes Tryz.prog ++ Tryz.f13.resultTypes.toList).any (Tryz.prog.wideKeysFrom ·))) = true := by kernel_rfl
theorem jfIn19 : ((OpenSpec.ofChange Rows.fnInSpec).bare.vars.all (Tryz.prog.varReadable ·)) = true := by kernel_rfl
theorem jfIn20 : (Tryz.f13.resultTypes.all (fun t => Tryz.prog.readableRec t && decide (t < Tryz.prog.types.size))) = true := by kernel_rfl
theorem jfIn21 : ((Rows.fnInRow.ifacesOut == Tryz.f13.resultTypes.toList.any (Tryz.prog.ifacesRec ·))) = true := by kernel_rfl
theorem jfIn22 : ((Rows.fnInRow.loopsOut == Tryz.f13.resultTypes.toList.any (Tryz.prog.loopsFrom ·))) = true := by kernel_rfl
theorem jfIn23 : ((Rows.fnInRow.plainKeys == Tryz.prog.plainKeys)) = true := by rw [jfKeys]; kernel_rfl
theorem jfIn24 : (Rows.fnInRow.shortTexts.isNone) = true := by kernel_rfl
theorem jfIn27 : ((Rows.fnInRow.lifted == Tryz.prog.liftsFinal)) = true := by rw [jfLift]; kernel_rfl
theorem jfIn28 : ((Tryz.prog.make == some Rows.fnInRow.make)) = true := by rw [jfMake]; kernel_rfl
theorem jfIn29 : ((Rows.fnInRow.kinds == (if Rows.fnInRow.domain.isEmpty then [] else Tryz.f13.params.toList.map fun t => match Tryz.prog.underlying t with | some (.int k) => some k | _ => none))) = true := by kernel_rfl
theorem jfIn30 : ((Rows.fnInRow.pinned == Rows.fnInRow.pinnedBy)) = true := by kernel_rfl
theorem jfIn31 : ((Rows.fnInRow.veiled == (Tryz.f13.params.toList ++ (OpenSpec.ofChange Rows.fnInSpec).bare.plain.varTypes Tryz.prog ++ Tryz.f13.resultTypes.toList).any (Tryz.prog.veiledRec ·))) = true := by kernel_rfl
theorem jfIn32 : (Rows.fnInRow.veiledFits Tryz.prog Tryz.f13.params.toList (Tryz.f13.params.toList ++ (OpenSpec.ofChange Rows.fnInSpec).bare.plain.varTypes Tryz.prog ++ Tryz.f13.resultTypes.toList)) = true := by kernel_rfl
set_option maxRecDepth 100000 in
theorem closedIn : joinedFacts Tryz.prog 13 Tryz.f13 (OpenSpec.ofChange Rows.fnInSpec).bare Rows.fnInRow = true :=
  joinedFacts_of jfIn1 jf2 jf3 jfIn4 jfIn5 jfIn6 jf7 jfIn8 jf9 jfIn10 jfIn11 jfIn12 jfIn13 jfIn14 jfIn15 jfIn16 jfIn17 jfIn18 jfIn19 jfIn20 jfIn21 jfIn22 jfIn23 jfIn24 jf25 jf26 jfIn27 jfIn28 jfIn29 jfIn30 jfIn31 jfIn32
set_option maxRecDepth 100000 in
theorem instIn : Tryz.f13.isInstance Tryz.prog Rows.fnInRow.origin Rows.fnInRow.targs := of_decide_eq_true (by kernel_rfl)
theorem wrapIn : Tryz.f13.isWrapper Tryz.prog Rows.fnInRow.wrapper Rows.fnInRow.mainSum := by
  unfold Func.isWrapper
  rw [if_neg (of_decide_eq_false (by kernel_rfl))]
  exact ⟨rfl, rfl⟩
theorem namedIn : Tryz.prog.funcNamed Rows.fnInRow.func = some 13 := by kernel_rfl

end Go.Proofs.YtfnncdngfggcjaaGreatDoor
