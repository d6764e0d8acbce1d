/- FnTwice: the row's closed facts. -/
import Derived.Test.YtfnncdngfggcjaaGreatDoorJf
namespace Go.Proofs.YtfnncdngfggcjaaGreatDoor
open Go.ChangeShapes Go.WideShapes Go.ChangeAt Go.RowKit Go.ChangeMaps

theorem jfTwice1 : (Rows.fnTwiceRow.wf (OpenSpec.ofChange (OpenSpec.ofChange Rows.fnTwiceSpec).bare)) = true := by kernel_rfl
theorem jfTwice4 : (Tryz.f10.params.all (Tryz.prog.readableRec ·)) = true := by kernel_rfl
theorem jfTwice5 : (namedTie Tryz.prog Rows.fnTwiceRow.named (OpenSpec.ofChange Rows.fnTwiceSpec).bare.vars) = true := by kernel_rfl
theorem jfTwice6 : ((Rows.fnTwiceRow.stops == [])) = true := by kernel_rfl
theorem jfTwice8 : ((Rows.fnTwiceRow.knobs == [])) = true := by kernel_rfl
theorem jfTwice10 : ((Rows.fnTwiceRow.inPlace == Tryz.prog.inPlace 10)) = true := by kernel_rfl
theorem jfTwice11 : ((Rows.fnTwiceRow.unfollowed == Tryz.prog.unfollowed 10)) = true := by kernel_rfl
theorem jfTwice12 : ((Rows.fnTwiceRow.recurses == Tryz.prog.recurses 10)) = true := by kernel_rfl
theorem jfTwice13 : ((Rows.fnTwiceRow.named == Tryz.prog.varsNamed 10)) = true := by kernel_rfl
theorem jfTwice14 : ((Rows.fnTwiceRow.maps == (Tryz.f10.params.toList ++ (OpenSpec.ofChange Rows.fnTwiceSpec).bare.plain.varTypes Tryz.prog).any (Tryz.prog.mapsRec ·))) = true := by kernel_rfl
theorem jfTwice15 : ((Rows.fnTwiceRow.ifaces == (Tryz.f10.params.toList ++ (OpenSpec.ofChange Rows.fnTwiceSpec).bare.plain.varTypes Tryz.prog).any (Tryz.prog.ifacesRec ·))) = true := by kernel_rfl
theorem jfTwice16 : ((Rows.fnTwiceRow.mapsOut == Tryz.prog.mapsAmong Tryz.f10.resultTypes.toList)) = true := by kernel_rfl
theorem jfTwice17 : ((Rows.fnTwiceRow.loops == (Tryz.f10.params.toList ++ (OpenSpec.ofChange Rows.fnTwiceSpec).bare.plain.varTypes Tryz.prog).any (Tryz.prog.loopsFrom ·))) = true := by kernel_rfl
theorem jfTwice18 : ((Rows.fnTwiceRow.wideKeys == (Tryz.f10.params.toList ++ (OpenSpec.ofChange Rows.fnTwiceSpec).bare.plain.varTypes Tryz.prog ++ Tryz.f10.resultTypes.toList).any (Tryz.prog.wideKeysFrom ·))) = true := by kernel_rfl
theorem jfTwice19 : ((OpenSpec.ofChange Rows.fnTwiceSpec).bare.vars.all (Tryz.prog.varReadable ·)) = true := by kernel_rfl
theorem jfTwice20 : (Tryz.f10.resultTypes.all (fun t => Tryz.prog.readableRec t && decide (t < Tryz.prog.types.size))) = true := by kernel_rfl
theorem jfTwice21 : ((Rows.fnTwiceRow.ifacesOut == Tryz.f10.resultTypes.toList.any (Tryz.prog.ifacesRec ·))) = true := by kernel_rfl
theorem jfTwice22 : ((Rows.fnTwiceRow.loopsOut == Tryz.f10.resultTypes.toList.any (Tryz.prog.loopsFrom ·))) = true := by kernel_rfl
theorem jfTwice23 : ((Rows.fnTwiceRow.plainKeys == Tryz.prog.plainKeys)) = true := by rw [jfKeys]; kernel_rfl
theorem jfTwice24 : (Rows.fnTwiceRow.shortTexts.isNone) = true := by kernel_rfl
theorem jfTwice27 : ((Rows.fnTwiceRow.lifted == Tryz.prog.liftsFinal)) = true := by rw [jfLift]; kernel_rfl
theorem jfTwice28 : ((Tryz.prog.make == some Rows.fnTwiceRow.make)) = true := by rw [jfMake]; kernel_rfl
theorem jfTwice29 : ((Rows.fnTwiceRow.kinds == (if Rows.fnTwiceRow.domain.isEmpty then [] else Tryz.f10.params.toList.map fun t => match Tryz.prog.underlying t with | some (.int k) => some k | _ => none))) = true := by kernel_rfl
theorem jfTwice30 : ((Rows.fnTwiceRow.pinned == Rows.fnTwiceRow.pinnedBy)) = true := by kernel_rfl
theorem jfTwice31 : ((Rows.fnTwiceRow.veiled == (Tryz.f10.params.toList ++ (OpenSpec.ofChange Rows.fnTwiceSpec).bare.plain.varTypes Tryz.prog ++ Tryz.f10.resultTypes.toList).any (Tryz.prog.veiledRec ·))) = true := by kernel_rfl
theorem jfTwice32 : (Rows.fnTwiceRow.veiledFits Tryz.prog Tryz.f10.params.toList (Tryz.f10.params.toList ++ (OpenSpec.ofChange Rows.fnTwiceSpec).bare.plain.varTypes Tryz.prog ++ Tryz.f10.resultTypes.toList)) = true := by kernel_rfl
set_option maxRecDepth 100000 in
theorem closedTwice : joinedFacts Tryz.prog 10 Tryz.f10 (OpenSpec.ofChange Rows.fnTwiceSpec).bare Rows.fnTwiceRow = true :=
  joinedFacts_of jfTwice1 jf2 jf3 jfTwice4 jfTwice5 jfTwice6 jf7 jfTwice8 jf9 jfTwice10 jfTwice11 jfTwice12 jfTwice13 jfTwice14 jfTwice15 jfTwice16 jfTwice17 jfTwice18 jfTwice19 jfTwice20 jfTwice21 jfTwice22 jfTwice23 jfTwice24 jf25 jf26 jfTwice27 jfTwice28 jfTwice29 jfTwice30 jfTwice31 jfTwice32
set_option maxRecDepth 100000 in
theorem instTwice : Tryz.f10.isInstance Tryz.prog Rows.fnTwiceRow.origin Rows.fnTwiceRow.targs := of_decide_eq_true (by kernel_rfl)
theorem wrapTwice : Tryz.f10.isWrapper Tryz.prog Rows.fnTwiceRow.wrapper Rows.fnTwiceRow.mainSum := by
  unfold Func.isWrapper
  rw [if_neg (of_decide_eq_false (by kernel_rfl))]
  exact ⟨rfl, rfl⟩
theorem namedTwice : Tryz.prog.funcNamed Rows.fnTwiceRow.func = some 10 := by kernel_rfl

end Go.Proofs.YtfnncdngfggcjaaGreatDoor
