/- FnNumbered: the row's closed facts. -/
import Derived.Test.YtfnncdngfggcjaaGreatDoorJf
namespace Go.Proofs.YtfnncdngfggcjaaGreatDoor
open Go.ChangeShapes Go.WideShapes Go.ChangeAt Go.RowKit Go.ChangeMaps

theorem jfNumbered1 : (Rows.fnNumberedRow.wf (OpenSpec.ofChange (OpenSpec.ofChange Rows.fnNumberedSpec).bare)) = true := by kernel_rfl
theorem jfNumbered4 : (Tryz.f8.params.all (Tryz.prog.readableRec ·)) = true := by kernel_rfl
theorem jfNumbered5 : (namedTie Tryz.prog Rows.fnNumberedRow.named (OpenSpec.ofChange Rows.fnNumberedSpec).bare.vars) = true := by kernel_rfl
theorem jfNumbered6 : ((Rows.fnNumberedRow.stops == [])) = true := by kernel_rfl
theorem jfNumbered8 : ((Rows.fnNumberedRow.knobs == [])) = true := by kernel_rfl
theorem jfNumbered10 : ((Rows.fnNumberedRow.inPlace == Tryz.prog.inPlace 8)) = true := by kernel_rfl
theorem jfNumbered11 : ((Rows.fnNumberedRow.unfollowed == Tryz.prog.unfollowed 8)) = true := by kernel_rfl
theorem jfNumbered12 : ((Rows.fnNumberedRow.recurses == Tryz.prog.recurses 8)) = true := by kernel_rfl
theorem jfNumbered13 : ((Rows.fnNumberedRow.named == Tryz.prog.varsNamed 8)) = true := by kernel_rfl
theorem jfNumbered14 : ((Rows.fnNumberedRow.maps == (Tryz.f8.params.toList ++ (OpenSpec.ofChange Rows.fnNumberedSpec).bare.plain.varTypes Tryz.prog).any (Tryz.prog.mapsRec ·))) = true := by kernel_rfl
theorem jfNumbered15 : ((Rows.fnNumberedRow.ifaces == (Tryz.f8.params.toList ++ (OpenSpec.ofChange Rows.fnNumberedSpec).bare.plain.varTypes Tryz.prog).any (Tryz.prog.ifacesRec ·))) = true := by kernel_rfl
theorem jfNumbered16 : ((Rows.fnNumberedRow.mapsOut == Tryz.prog.mapsAmong Tryz.f8.resultTypes.toList)) = true := by kernel_rfl
theorem jfNumbered17 : ((Rows.fnNumberedRow.loops == (Tryz.f8.params.toList ++ (OpenSpec.ofChange Rows.fnNumberedSpec).bare.plain.varTypes Tryz.prog).any (Tryz.prog.loopsFrom ·))) = true := by kernel_rfl
theorem jfNumbered18 : ((Rows.fnNumberedRow.wideKeys == (Tryz.f8.params.toList ++ (OpenSpec.ofChange Rows.fnNumberedSpec).bare.plain.varTypes Tryz.prog ++ Tryz.f8.resultTypes.toList).any (Tryz.prog.wideKeysFrom ·))) = true := by kernel_rfl
theorem jfNumbered19 : ((OpenSpec.ofChange Rows.fnNumberedSpec).bare.vars.all (Tryz.prog.varReadable ·)) = true := by kernel_rfl
theorem jfNumbered20 : (Tryz.f8.resultTypes.all (fun t => Tryz.prog.readableRec t && decide (t < Tryz.prog.types.size))) = true := by kernel_rfl
theorem jfNumbered21 : ((Rows.fnNumberedRow.ifacesOut == Tryz.f8.resultTypes.toList.any (Tryz.prog.ifacesRec ·))) = true := by kernel_rfl
theorem jfNumbered22 : ((Rows.fnNumberedRow.loopsOut == Tryz.f8.resultTypes.toList.any (Tryz.prog.loopsFrom ·))) = true := by kernel_rfl
theorem jfNumbered23 : ((Rows.fnNumberedRow.plainKeys == Tryz.prog.plainKeys)) = true := by rw [jfKeys]; kernel_rfl
theorem jfNumbered24 : (Rows.fnNumberedRow.shortTexts.isNone) = true := by kernel_rfl
theorem jfNumbered27 : ((Rows.fnNumberedRow.lifted == Tryz.prog.liftsFinal)) = true := by rw [jfLift]; kernel_rfl
theorem jfNumbered28 : ((Tryz.prog.make == some Rows.fnNumberedRow.make)) = true := by rw [jfMake]; kernel_rfl
theorem jfNumbered29 : ((Rows.fnNumberedRow.kinds == (if Rows.fnNumberedRow.domain.isEmpty then [] else Tryz.f8.params.toList.map fun t => match Tryz.prog.underlying t with | some (.int k) => some k | _ => none))) = true := by kernel_rfl
theorem jfNumbered30 : ((Rows.fnNumberedRow.pinned == Rows.fnNumberedRow.pinnedBy)) = true := by kernel_rfl
theorem jfNumbered31 : ((Rows.fnNumberedRow.veiled == (Tryz.f8.params.toList ++ (OpenSpec.ofChange Rows.fnNumberedSpec).bare.plain.varTypes Tryz.prog ++ Tryz.f8.resultTypes.toList).any (Tryz.prog.veiledRec ·))) = true := by kernel_rfl
theorem jfNumbered32 : (Rows.fnNumberedRow.veiledFits Tryz.prog Tryz.f8.params.toList (Tryz.f8.params.toList ++ (OpenSpec.ofChange Rows.fnNumberedSpec).bare.plain.varTypes Tryz.prog ++ Tryz.f8.resultTypes.toList)) = true := by kernel_rfl
set_option maxRecDepth 100000 in
theorem closedNumbered : joinedFacts Tryz.prog 8 Tryz.f8 (OpenSpec.ofChange Rows.fnNumberedSpec).bare Rows.fnNumberedRow = true :=
  joinedFacts_of jfNumbered1 jf2 jf3 jfNumbered4 jfNumbered5 jfNumbered6 jf7 jfNumbered8 jf9 jfNumbered10 jfNumbered11 jfNumbered12 jfNumbered13 jfNumbered14 jfNumbered15 jfNumbered16 jfNumbered17 jfNumbered18 jfNumbered19 jfNumbered20 jfNumbered21 jfNumbered22 jfNumbered23 jfNumbered24 jf25 jf26 jfNumbered27 jfNumbered28 jfNumbered29 jfNumbered30 jfNumbered31 jfNumbered32
set_option maxRecDepth 100000 in
theorem instNumbered : Tryz.f8.isInstance Tryz.prog Rows.fnNumberedRow.origin Rows.fnNumberedRow.targs := of_decide_eq_true (by kernel_rfl)
theorem wrapNumbered : Tryz.f8.isWrapper Tryz.prog Rows.fnNumberedRow.wrapper Rows.fnNumberedRow.mainSum := by
  unfold Func.isWrapper
  rw [if_neg (of_decide_eq_false (by kernel_rfl))]
  exact ⟨rfl, rfl⟩
theorem namedNumbered : Tryz.prog.funcNamed Rows.fnNumberedRow.func = some 8 := by kernel_rfl

end Go.Proofs.YtfnncdngfggcjaaGreatDoor
