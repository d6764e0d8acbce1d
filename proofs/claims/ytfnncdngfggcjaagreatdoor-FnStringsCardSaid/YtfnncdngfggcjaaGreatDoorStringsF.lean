/- FnStrings: the row's closed facts. -/
import Derived.Test.YtfnncdngfggcjaaGreatDoorJf
namespace Go.Proofs.YtfnncdngfggcjaaGreatDoor
open Go.ChangeShapes Go.WideShapes Go.ChangeAt Go.RowKit Go.ChangeMaps

theorem jfStrings1 : (Rows.fnStringsRow.wf (OpenSpec.ofChange (OpenSpec.ofChange Rows.fnStringsSpec).bare)) = true := by kernel_rfl
theorem jfStrings4 : (Tryz.f14.params.all (Tryz.prog.readableRec ·)) = true := by kernel_rfl
theorem jfStrings5 : (namedTie Tryz.prog Rows.fnStringsRow.named (OpenSpec.ofChange Rows.fnStringsSpec).bare.vars) = true := by kernel_rfl
theorem jfStrings6 : ((Rows.fnStringsRow.stops == [])) = true := by kernel_rfl
theorem jfStrings8 : ((Rows.fnStringsRow.knobs == [])) = true := by kernel_rfl
theorem jfStrings10 : ((Rows.fnStringsRow.inPlace == Tryz.prog.inPlace 14)) = true := by kernel_rfl
theorem jfStrings11 : ((Rows.fnStringsRow.unfollowed == Tryz.prog.unfollowed 14)) = true := by kernel_rfl
theorem jfStrings12 : ((Rows.fnStringsRow.recurses == Tryz.prog.recurses 14)) = true := by kernel_rfl
theorem jfStrings13 : ((Rows.fnStringsRow.named == Tryz.prog.varsNamed 14)) = true := by kernel_rfl
theorem jfStrings14 : ((Rows.fnStringsRow.maps == (Tryz.f14.params.toList ++ (OpenSpec.ofChange Rows.fnStringsSpec).bare.plain.varTypes Tryz.prog).any (Tryz.prog.mapsRec ·))) = true := by kernel_rfl
theorem jfStrings15 : ((Rows.fnStringsRow.ifaces == (Tryz.f14.params.toList ++ (OpenSpec.ofChange Rows.fnStringsSpec).bare.plain.varTypes Tryz.prog).any (Tryz.prog.ifacesRec ·))) = true := by kernel_rfl
theorem jfStrings16 : ((Rows.fnStringsRow.mapsOut == Tryz.prog.mapsAmong Tryz.f14.resultTypes.toList)) = true := by kernel_rfl
theorem jfStrings17 : ((Rows.fnStringsRow.loops == (Tryz.f14.params.toList ++ (OpenSpec.ofChange Rows.fnStringsSpec).bare.plain.varTypes Tryz.prog).any (Tryz.prog.loopsFrom ·))) = true := by kernel_rfl
theorem jfStrings18 : ((Rows.fnStringsRow.wideKeys == (Tryz.f14.params.toList ++ (OpenSpec.ofChange Rows.fnStringsSpec).bare.plain.varTypes Tryz.prog ++ Tryz.f14.resultTypes.toList).any (Tryz.prog.wideKeysFrom ·))) = true := by kernel_rfl
theorem jfStrings19 : ((OpenSpec.ofChange Rows.fnStringsSpec).bare.vars.all (Tryz.prog.varReadable ·)) = true := by kernel_rfl
theorem jfStrings20 : (Tryz.f14.resultTypes.all (fun t => Tryz.prog.readableRec t && decide (t < Tryz.prog.types.size))) = true := by kernel_rfl
theorem jfStrings21 : ((Rows.fnStringsRow.ifacesOut == Tryz.f14.resultTypes.toList.any (Tryz.prog.ifacesRec ·))) = true := by kernel_rfl
theorem jfStrings22 : ((Rows.fnStringsRow.loopsOut == Tryz.f14.resultTypes.toList.any (Tryz.prog.loopsFrom ·))) = true := by kernel_rfl
theorem jfStrings23 : ((Rows.fnStringsRow.plainKeys == Tryz.prog.plainKeys)) = true := by rw [jfKeys]; kernel_rfl
theorem jfStrings24 : (Rows.fnStringsRow.shortTexts.isNone) = true := by kernel_rfl
theorem jfStrings27 : ((Rows.fnStringsRow.lifted == Tryz.prog.liftsFinal)) = true := by rw [jfLift]; kernel_rfl
theorem jfStrings28 : ((Tryz.prog.make == some Rows.fnStringsRow.make)) = true := by rw [jfMake]; kernel_rfl
theorem jfStrings29 : ((Rows.fnStringsRow.kinds == (if Rows.fnStringsRow.domain.isEmpty then [] else Tryz.f14.params.toList.map fun t => match Tryz.prog.underlying t with | some (.int k) => some k | _ => none))) = true := by kernel_rfl
theorem jfStrings30 : ((Rows.fnStringsRow.pinned == Rows.fnStringsRow.pinnedBy)) = true := by kernel_rfl
theorem jfStrings31 : ((Rows.fnStringsRow.veiled == (Tryz.f14.params.toList ++ (OpenSpec.ofChange Rows.fnStringsSpec).bare.plain.varTypes Tryz.prog ++ Tryz.f14.resultTypes.toList).any (Tryz.prog.veiledRec ·))) = true := by kernel_rfl
theorem jfStrings32 : (Rows.fnStringsRow.veiledFits Tryz.prog Tryz.f14.params.toList (Tryz.f14.params.toList ++ (OpenSpec.ofChange Rows.fnStringsSpec).bare.plain.varTypes Tryz.prog ++ Tryz.f14.resultTypes.toList)) = true := by kernel_rfl
set_option maxRecDepth 100000 in
theorem closedStrings : joinedFacts Tryz.prog 14 Tryz.f14 (OpenSpec.ofChange Rows.fnStringsSpec).bare Rows.fnStringsRow = true :=
  joinedFacts_of jfStrings1 jf2 jf3 jfStrings4 jfStrings5 jfStrings6 jf7 jfStrings8 jf9 jfStrings10 jfStrings11 jfStrings12 jfStrings13 jfStrings14 jfStrings15 jfStrings16 jfStrings17 jfStrings18 jfStrings19 jfStrings20 jfStrings21 jfStrings22 jfStrings23 jfStrings24 jf25 jf26 jfStrings27 jfStrings28 jfStrings29 jfStrings30 jfStrings31 jfStrings32
set_option maxRecDepth 100000 in
theorem instStrings : Tryz.f14.isInstance Tryz.prog Rows.fnStringsRow.origin Rows.fnStringsRow.targs := of_decide_eq_true (by kernel_rfl)
theorem wrapStrings : Tryz.f14.isWrapper Tryz.prog Rows.fnStringsRow.wrapper Rows.fnStringsRow.mainSum := by
  unfold Func.isWrapper
  rw [if_neg (of_decide_eq_false (by kernel_rfl))]
  exact ⟨rfl, rfl⟩
theorem namedStrings : Tryz.prog.funcNamed Rows.fnStringsRow.func = some 14 := by kernel_rfl

end Go.Proofs.YtfnncdngfggcjaaGreatDoor
