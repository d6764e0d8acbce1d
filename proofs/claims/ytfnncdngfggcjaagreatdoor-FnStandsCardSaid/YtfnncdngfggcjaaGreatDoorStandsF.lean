/- FnStands: the row's closed facts. -/
import Derived.Test.YtfnncdngfggcjaaGreatDoorJf
namespace Go.Proofs.YtfnncdngfggcjaaGreatDoor
open Go.ChangeShapes Go.WideShapes Go.ChangeAt Go.RowKit Go.ChangeMaps

theorem jfStands1 : (Rows.fnStandsRow.wf (OpenSpec.ofChange (OpenSpec.ofChange Rows.fnStandsSpec).bare)) = true := by kernel_rfl
theorem jfStands4 : (Tryz.f11.params.all (Tryz.prog.readableRec ·)) = true := by kernel_rfl
theorem jfStands5 : (namedTie Tryz.prog Rows.fnStandsRow.named (OpenSpec.ofChange Rows.fnStandsSpec).bare.vars) = true := by kernel_rfl
theorem jfStands6 : ((Rows.fnStandsRow.stops == [])) = true := by kernel_rfl
theorem jfStands8 : ((Rows.fnStandsRow.knobs == [])) = true := by kernel_rfl
theorem jfStands10 : ((Rows.fnStandsRow.inPlace == Tryz.prog.inPlace 11)) = true := by kernel_rfl
theorem jfStands11 : ((Rows.fnStandsRow.unfollowed == Tryz.prog.unfollowed 11)) = true := by kernel_rfl
theorem jfStands12 : ((Rows.fnStandsRow.recurses == Tryz.prog.recurses 11)) = true := by kernel_rfl
theorem jfStands13 : ((Rows.fnStandsRow.named == Tryz.prog.varsNamed 11)) = true := by kernel_rfl
theorem jfStands14 : ((Rows.fnStandsRow.maps == (Tryz.f11.params.toList ++ (OpenSpec.ofChange Rows.fnStandsSpec).bare.plain.varTypes Tryz.prog).any (Tryz.prog.mapsRec ·))) = true := by kernel_rfl
theorem jfStands15 : ((Rows.fnStandsRow.ifaces == (Tryz.f11.params.toList ++ (OpenSpec.ofChange Rows.fnStandsSpec).bare.plain.varTypes Tryz.prog).any (Tryz.prog.ifacesRec ·))) = true := by kernel_rfl
theorem jfStands16 : ((Rows.fnStandsRow.mapsOut == Tryz.prog.mapsAmong Tryz.f11.resultTypes.toList)) = true := by kernel_rfl
theorem jfStands17 : ((Rows.fnStandsRow.loops == (Tryz.f11.params.toList ++ (OpenSpec.ofChange Rows.fnStandsSpec).bare.plain.varTypes Tryz.prog).any (Tryz.prog.loopsFrom ·))) = true := by kernel_rfl
theorem jfStands18 : ((Rows.fnStandsRow.wideKeys == (Tryz.f11.params.toList ++ (OpenSpec.ofChange Rows.fnStandsSpec).bare.plain.varTypes Tryz.prog ++ Tryz.f11.resultTypes.toList).any (Tryz.prog.wideKeysFrom ·))) = true := by kernel_rfl
theorem jfStands19 : ((OpenSpec.ofChange Rows.fnStandsSpec).bare.vars.all (Tryz.prog.varReadable ·)) = true := by kernel_rfl
theorem jfStands20 : (Tryz.f11.resultTypes.all (fun t => Tryz.prog.readableRec t && decide (t < Tryz.prog.types.size))) = true := by kernel_rfl
theorem jfStands21 : ((Rows.fnStandsRow.ifacesOut == Tryz.f11.resultTypes.toList.any (Tryz.prog.ifacesRec ·))) = true := by kernel_rfl
theorem jfStands22 : ((Rows.fnStandsRow.loopsOut == Tryz.f11.resultTypes.toList.any (Tryz.prog.loopsFrom ·))) = true := by kernel_rfl
theorem jfStands23 : ((Rows.fnStandsRow.plainKeys == Tryz.prog.plainKeys)) = true := by rw [jfKeys]; kernel_rfl
theorem jfStands24 : (Rows.fnStandsRow.shortTexts.isNone) = true := by kernel_rfl
theorem jfStands27 : ((Rows.fnStandsRow.lifted == Tryz.prog.liftsFinal)) = true := by rw [jfLift]; kernel_rfl
theorem jfStands28 : ((Tryz.prog.make == some Rows.fnStandsRow.make)) = true := by rw [jfMake]; kernel_rfl
theorem jfStands29 : ((Rows.fnStandsRow.kinds == (if Rows.fnStandsRow.domain.isEmpty then [] else Tryz.f11.params.toList.map fun t => match Tryz.prog.underlying t with | some (.int k) => some k | _ => none))) = true := by kernel_rfl
theorem jfStands30 : ((Rows.fnStandsRow.pinned == Rows.fnStandsRow.pinnedBy)) = true := by kernel_rfl
theorem jfStands31 : ((Rows.fnStandsRow.veiled == (Tryz.f11.params.toList ++ (OpenSpec.ofChange Rows.fnStandsSpec).bare.plain.varTypes Tryz.prog ++ Tryz.f11.resultTypes.toList).any (Tryz.prog.veiledRec ·))) = true := by kernel_rfl
theorem jfStands32 : (Rows.fnStandsRow.veiledFits Tryz.prog Tryz.f11.params.toList (Tryz.f11.params.toList ++ (OpenSpec.ofChange Rows.fnStandsSpec).bare.plain.varTypes Tryz.prog ++ Tryz.f11.resultTypes.toList)) = true := by kernel_rfl
set_option maxRecDepth 100000 in
theorem closedStands : joinedFacts Tryz.prog 11 Tryz.f11 (OpenSpec.ofChange Rows.fnStandsSpec).bare Rows.fnStandsRow = true :=
  joinedFacts_of jfStands1 jf2 jf3 jfStands4 jfStands5 jfStands6 jf7 jfStands8 jf9 jfStands10 jfStands11 jfStands12 jfStands13 jfStands14 jfStands15 jfStands16 jfStands17 jfStands18 jfStands19 jfStands20 jfStands21 jfStands22 jfStands23 jfStands24 jf25 jf26 jfStands27 jfStands28 jfStands29 jfStands30 jfStands31 jfStands32
set_option maxRecDepth 100000 in
theorem instStands : Tryz.f11.isInstance Tryz.prog Rows.fnStandsRow.origin Rows.fnStandsRow.targs := of_decide_eq_true (by kernel_rfl)
theorem wrapStands : Tryz.f11.isWrapper Tryz.prog Rows.fnStandsRow.wrapper Rows.fnStandsRow.mainSum := by
  unfold Func.isWrapper
  rw [if_neg (of_decide_eq_false (by kernel_rfl))]
  exact ⟨rfl, rfl⟩
theorem namedStands : Tryz.prog.funcNamed Rows.fnStandsRow.func = some 11 := by kernel_rfl

end Go.Proofs.YtfnncdngfggcjaaGreatDoor
