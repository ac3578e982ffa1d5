import Derived.Test.Qxb6601068aHead
namespace Go.Proofs.Qxb6601068a
set_option linter.unusedVariables false

theorem factE0 : (Rows.fnMayReadBackSingleEscapeRow.wf (OpenSpec.ofChange Rows.fnMayReadBackSingleEscapeSpec)) = true := by kernel_rfl
theorem factE1 : (laidOutB Try.prog) = true := by kernel_rfl
theorem factE2 : (mapsRowed Try.prog) = true := by kernel_rfl
theorem factE3 : (Try.f9.params.all (Try.prog.readableRec ·)) = true := by kernel_rfl
theorem factE4 : (namedTie Try.prog Rows.fnMayReadBackSingleEscapeRow.named Rows.fnMayReadBackSingleEscapeSpec.vars) = true := by kernel_rfl
theorem factE5 : ((Rows.fnMayReadBackSingleEscapeRow.stops == [])) = true := by kernel_rfl
theorem factE6 : ((Try.prog.stops == [])) = true := by kernel_rfl
theorem factE7 : ((Rows.fnMayReadBackSingleEscapeRow.knobs == [])) = true := by kernel_rfl
theorem factE8 : ((Try.prog.stopKnobs == [])) = true := by kernel_rfl
theorem factE9 : ((Rows.fnMayReadBackSingleEscapeRow.inPlace == Try.prog.inPlace 9)) = true := by kernel_rfl
theorem factE10 : ((Rows.fnMayReadBackSingleEscapeRow.unfollowed == Try.prog.unfollowed 9)) = true := by kernel_rfl
theorem factE11 : ((Rows.fnMayReadBackSingleEscapeRow.recurses == Try.prog.recurses 9)) = true := by kernel_rfl
theorem factE12 : ((Rows.fnMayReadBackSingleEscapeRow.named == Try.prog.varsNamed 9)) = true := by kernel_rfl
theorem factE13 : ((Rows.fnMayReadBackSingleEscapeRow.maps == (Try.f9.params.toList ++ Rows.fnMayReadBackSingleEscapeSpec.plain.varTypes Try.prog).any (Try.prog.mapsRec ·))) = true := by kernel_rfl
theorem factE14 : ((Rows.fnMayReadBackSingleEscapeRow.ifaces == (Try.f9.params.toList ++ Rows.fnMayReadBackSingleEscapeSpec.plain.varTypes Try.prog).any (Try.prog.ifacesRec ·))) = true := by kernel_rfl
theorem factE15 : ((Rows.fnMayReadBackSingleEscapeRow.mapsOut == Try.prog.mapsAmong Try.f9.resultTypes.toList)) = true := by kernel_rfl
theorem factE16 : ((Rows.fnMayReadBackSingleEscapeRow.loops == (Try.f9.params.toList ++ Rows.fnMayReadBackSingleEscapeSpec.plain.varTypes Try.prog).any (Try.prog.loopsFrom ·))) = true := by kernel_rfl
theorem factE17 : ((Rows.fnMayReadBackSingleEscapeRow.wideKeys == (Try.f9.params.toList ++ Rows.fnMayReadBackSingleEscapeSpec.plain.varTypes Try.prog ++ Try.f9.resultTypes.toList).any (Try.prog.wideKeysFrom ·))) = true := by kernel_rfl
theorem factE18 : (Rows.fnMayReadBackSingleEscapeSpec.vars.all (Try.prog.varReadable ·)) = true := by kernel_rfl
theorem factE19 : (Try.f9.resultTypes.all (fun t => Try.prog.readableRec t && decide (t < Try.prog.types.size))) = true := by kernel_rfl
theorem factE20 : ((Rows.fnMayReadBackSingleEscapeRow.ifacesOut == Try.f9.resultTypes.toList.any (Try.prog.ifacesRec ·))) = true := by kernel_rfl
theorem factE21 : ((Rows.fnMayReadBackSingleEscapeRow.loopsOut == Try.f9.resultTypes.toList.any (Try.prog.loopsFrom ·))) = true := by kernel_rfl
theorem factE22 : ((Rows.fnMayReadBackSingleEscapeRow.plainKeys == Try.prog.plainKeys)) = true := by kernel_rfl
theorem factE23 : (Rows.fnMayReadBackSingleEscapeRow.shortTexts.isNone) = true := by kernel_rfl
theorem factE24 : (Try.prog.stopsHeard) = true := by kernel_rfl
theorem factE25 : (Try.prog.mayEnter) = true := mayEnter_is
theorem factE26 : ((Rows.fnMayReadBackSingleEscapeRow.lifted == Try.prog.liftsFinal)) = true := (congrArg (fun b => (Rows.fnMayReadBackSingleEscapeRow.lifted == b)) liftsFinal_is).trans (by kernel_rfl)
theorem factE27 : ((Try.prog.make == some Rows.fnMayReadBackSingleEscapeRow.make)) = true := (congrArg (fun b => (b == some Rows.fnMayReadBackSingleEscapeRow.make)) make_is).trans (by kernel_rfl)
theorem factE28 : (kindsFit Try.prog Try.f9 Rows.fnMayReadBackSingleEscapeRow) = true := by kernel_rfl
theorem factE29 : ((Rows.fnMayReadBackSingleEscapeRow.pinned == Rows.fnMayReadBackSingleEscapeRow.pinnedBy)) = true := by kernel_rfl
theorem factE30 : ((Rows.fnMayReadBackSingleEscapeRow.veiled == (Try.f9.params.toList ++ Rows.fnMayReadBackSingleEscapeSpec.plain.varTypes Try.prog ++ Try.f9.resultTypes.toList).any (Try.prog.veiledRec ·))) = true := by kernel_rfl
theorem factE31 : (Rows.fnMayReadBackSingleEscapeRow.veiledFits Try.prog Try.f9.params.toList (Try.f9.params.toList ++ Rows.fnMayReadBackSingleEscapeSpec.plain.varTypes Try.prog ++ Try.f9.resultTypes.toList)) = true := by kernel_rfl
theorem factE : joinedFacts Try.prog 9 Try.f9 Rows.fnMayReadBackSingleEscapeSpec Rows.fnMayReadBackSingleEscapeRow = true :=
  facts_of (P := Try.prog) (f := 9) (fn := Try.f9) (s := Rows.fnMayReadBackSingleEscapeSpec) (c := Rows.fnMayReadBackSingleEscapeRow) factE0 factE1 factE2 factE3 factE4 factE5 factE6 factE7 factE8 factE9 factE10 factE11 factE12 factE13 factE14 factE15 factE16 factE17 factE18 factE19 factE20 factE21 factE22 factE23 factE24 factE25 factE26 factE27 factE28 factE29 factE30 factE31
end Go.Proofs.Qxb6601068a
