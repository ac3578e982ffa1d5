import Derived.Test.Qxb6001690aHead
namespace Go.Proofs.Qxb6001690a
set_option linter.unusedVariables false

theorem factR0 : (Rows.fnSetLinesRoundTripRow.wf (OpenSpec.ofChange Rows.fnSetLinesRoundTripSpec)) = true := by kernel_rfl
theorem factR1 : (laidOutB Try.prog) = true := by kernel_rfl
theorem factR2 : (mapsRowed Try.prog) = true := by kernel_rfl
theorem factR3 : (Try.f10.params.all (Try.prog.readableRec ·)) = true := by kernel_rfl
theorem factR4 : (namedTie Try.prog Rows.fnSetLinesRoundTripRow.named Rows.fnSetLinesRoundTripSpec.vars) = true := by kernel_rfl
theorem factR5 : ((Rows.fnSetLinesRoundTripRow.stops == [])) = true := by kernel_rfl
theorem factR6 : ((Try.prog.stops == [])) = true := by kernel_rfl
theorem factR7 : ((Rows.fnSetLinesRoundTripRow.knobs == [])) = true := by kernel_rfl
theorem factR8 : ((Try.prog.stopKnobs == [])) = true := by kernel_rfl
theorem factR9 : ((Rows.fnSetLinesRoundTripRow.inPlace == Try.prog.inPlace 10)) = true := by kernel_rfl
theorem factR10 : ((Rows.fnSetLinesRoundTripRow.unfollowed == Try.prog.unfollowed 10)) = true := by kernel_rfl
theorem factR11 : ((Rows.fnSetLinesRoundTripRow.recurses == Try.prog.recurses 10)) = true := by kernel_rfl
theorem factR12 : ((Rows.fnSetLinesRoundTripRow.named == Try.prog.varsNamed 10)) = true := by kernel_rfl
theorem factR13 : ((Rows.fnSetLinesRoundTripRow.maps == (Try.f10.params.toList ++ Rows.fnSetLinesRoundTripSpec.plain.varTypes Try.prog).any (Try.prog.mapsRec ·))) = true := by kernel_rfl
theorem factR14 : ((Rows.fnSetLinesRoundTripRow.ifaces == (Try.f10.params.toList ++ Rows.fnSetLinesRoundTripSpec.plain.varTypes Try.prog).any (Try.prog.ifacesRec ·))) = true := by kernel_rfl
theorem factR15 : ((Rows.fnSetLinesRoundTripRow.mapsOut == Try.prog.mapsAmong Try.f10.resultTypes.toList)) = true := by kernel_rfl
theorem factR16 : ((Rows.fnSetLinesRoundTripRow.loops == (Try.f10.params.toList ++ Rows.fnSetLinesRoundTripSpec.plain.varTypes Try.prog).any (Try.prog.loopsFrom ·))) = true := by kernel_rfl
theorem factR17 : ((Rows.fnSetLinesRoundTripRow.wideKeys == (Try.f10.params.toList ++ Rows.fnSetLinesRoundTripSpec.plain.varTypes Try.prog ++ Try.f10.resultTypes.toList).any (Try.prog.wideKeysFrom ·))) = true := by kernel_rfl
theorem factR18 : (Rows.fnSetLinesRoundTripSpec.vars.all (Try.prog.varReadable ·)) = true := by kernel_rfl
theorem factR19 : (Try.f10.resultTypes.all (fun t => Try.prog.readableRec t && decide (t < Try.prog.types.size))) = true := by kernel_rfl
theorem factR20 : ((Rows.fnSetLinesRoundTripRow.ifacesOut == Try.f10.resultTypes.toList.any (Try.prog.ifacesRec ·))) = true := by kernel_rfl
theorem factR21 : ((Rows.fnSetLinesRoundTripRow.loopsOut == Try.f10.resultTypes.toList.any (Try.prog.loopsFrom ·))) = true := by kernel_rfl
theorem factR22 : ((Rows.fnSetLinesRoundTripRow.plainKeys == Try.prog.plainKeys)) = true := by kernel_rfl
theorem factR23 : (Rows.fnSetLinesRoundTripRow.shortTexts.isNone) = true := by kernel_rfl
theorem factR24 : (Try.prog.stopsHeard) = true := by kernel_rfl
theorem factR25 : (Try.prog.mayEnter) = true := mayEnter_is
theorem factR26 : ((Rows.fnSetLinesRoundTripRow.lifted == Try.prog.liftsFinal)) = true := (congrArg (fun b => (Rows.fnSetLinesRoundTripRow.lifted == b)) liftsFinal_is).trans (by kernel_rfl)
theorem factR27 : ((Try.prog.make == some Rows.fnSetLinesRoundTripRow.make)) = true := (congrArg (fun b => (b == some Rows.fnSetLinesRoundTripRow.make)) make_is).trans (by kernel_rfl)
theorem factR28 : (kindsFit Try.prog Try.f10 Rows.fnSetLinesRoundTripRow) = true := by kernel_rfl
theorem factR29 : ((Rows.fnSetLinesRoundTripRow.pinned == Rows.fnSetLinesRoundTripRow.pinnedBy)) = true := by kernel_rfl
theorem factR30 : ((Rows.fnSetLinesRoundTripRow.veiled == (Try.f10.params.toList ++ Rows.fnSetLinesRoundTripSpec.plain.varTypes Try.prog ++ Try.f10.resultTypes.toList).any (Try.prog.veiledRec ·))) = true := by kernel_rfl
theorem factR31 : (Rows.fnSetLinesRoundTripRow.veiledFits Try.prog Try.f10.params.toList (Try.f10.params.toList ++ Rows.fnSetLinesRoundTripSpec.plain.varTypes Try.prog ++ Try.f10.resultTypes.toList)) = true := by kernel_rfl
theorem factR : joinedFacts Try.prog 10 Try.f10 Rows.fnSetLinesRoundTripSpec Rows.fnSetLinesRoundTripRow = true :=
  facts_of (P := Try.prog) (f := 10) (fn := Try.f10) (s := Rows.fnSetLinesRoundTripSpec) (c := Rows.fnSetLinesRoundTripRow) factR0 factR1 factR2 factR3 factR4 factR5 factR6 factR7 factR8 factR9 factR10 factR11 factR12 factR13 factR14 factR15 factR16 factR17 factR18 factR19 factR20 factR21 factR22 factR23 factR24 factR25 factR26 factR27 factR28 factR29 factR30 factR31
end Go.Proofs.Qxb6001690a
