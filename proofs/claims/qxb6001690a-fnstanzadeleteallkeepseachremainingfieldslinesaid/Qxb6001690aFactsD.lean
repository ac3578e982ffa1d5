import Derived.Test.Qxb6001690aHead
namespace Go.Proofs.Qxb6001690a
set_option linter.unusedVariables false

theorem factD0 : (Rows.fnStanzaDeleteAllKeepsEachRemainingFieldsLineRow.wf (OpenSpec.ofChange Rows.fnStanzaDeleteAllKeepsEachRemainingFieldsLineSpec)) = true := by kernel_rfl
theorem factD1 : (laidOutB Try.prog) = true := by kernel_rfl
theorem factD2 : (mapsRowed Try.prog) = true := by kernel_rfl
theorem factD3 : (Try.f14.params.all (Try.prog.readableRec ·)) = true := by kernel_rfl
theorem factD4 : (namedTie Try.prog Rows.fnStanzaDeleteAllKeepsEachRemainingFieldsLineRow.named Rows.fnStanzaDeleteAllKeepsEachRemainingFieldsLineSpec.vars) = true := by kernel_rfl
theorem factD5 : ((Rows.fnStanzaDeleteAllKeepsEachRemainingFieldsLineRow.stops == [])) = true := by kernel_rfl
theorem factD6 : ((Try.prog.stops == [])) = true := by kernel_rfl
theorem factD7 : ((Rows.fnStanzaDeleteAllKeepsEachRemainingFieldsLineRow.knobs == [])) = true := by kernel_rfl
theorem factD8 : ((Try.prog.stopKnobs == [])) = true := by kernel_rfl
theorem factD9 : ((Rows.fnStanzaDeleteAllKeepsEachRemainingFieldsLineRow.inPlace == Try.prog.inPlace 14)) = true := by kernel_rfl
theorem factD10 : ((Rows.fnStanzaDeleteAllKeepsEachRemainingFieldsLineRow.unfollowed == Try.prog.unfollowed 14)) = true := by kernel_rfl
theorem factD11 : ((Rows.fnStanzaDeleteAllKeepsEachRemainingFieldsLineRow.recurses == Try.prog.recurses 14)) = true := by kernel_rfl
theorem factD12 : ((Rows.fnStanzaDeleteAllKeepsEachRemainingFieldsLineRow.named == Try.prog.varsNamed 14)) = true := by kernel_rfl
theorem factD13 : ((Rows.fnStanzaDeleteAllKeepsEachRemainingFieldsLineRow.maps == (Try.f14.params.toList ++ Rows.fnStanzaDeleteAllKeepsEachRemainingFieldsLineSpec.plain.varTypes Try.prog).any (Try.prog.mapsRec ·))) = true := by kernel_rfl
theorem factD14 : ((Rows.fnStanzaDeleteAllKeepsEachRemainingFieldsLineRow.ifaces == (Try.f14.params.toList ++ Rows.fnStanzaDeleteAllKeepsEachRemainingFieldsLineSpec.plain.varTypes Try.prog).any (Try.prog.ifacesRec ·))) = true := by kernel_rfl
theorem factD15 : ((Rows.fnStanzaDeleteAllKeepsEachRemainingFieldsLineRow.mapsOut == Try.prog.mapsAmong Try.f14.resultTypes.toList)) = true := by kernel_rfl
theorem factD16 : ((Rows.fnStanzaDeleteAllKeepsEachRemainingFieldsLineRow.loops == (Try.f14.params.toList ++ Rows.fnStanzaDeleteAllKeepsEachRemainingFieldsLineSpec.plain.varTypes Try.prog).any (Try.prog.loopsFrom ·))) = true := by kernel_rfl
theorem factD17 : ((Rows.fnStanzaDeleteAllKeepsEachRemainingFieldsLineRow.wideKeys == (Try.f14.params.toList ++ Rows.fnStanzaDeleteAllKeepsEachRemainingFieldsLineSpec.plain.varTypes Try.prog ++ Try.f14.resultTypes.toList).any (Try.prog.wideKeysFrom ·))) = true := by kernel_rfl
theorem factD18 : (Rows.fnStanzaDeleteAllKeepsEachRemainingFieldsLineSpec.vars.all (Try.prog.varReadable ·)) = true := by kernel_rfl
theorem factD19 : (Try.f14.resultTypes.all (fun t => Try.prog.readableRec t && decide (t < Try.prog.types.size))) = true := by kernel_rfl
theorem factD20 : ((Rows.fnStanzaDeleteAllKeepsEachRemainingFieldsLineRow.ifacesOut == Try.f14.resultTypes.toList.any (Try.prog.ifacesRec ·))) = true := by kernel_rfl
theorem factD21 : ((Rows.fnStanzaDeleteAllKeepsEachRemainingFieldsLineRow.loopsOut == Try.f14.resultTypes.toList.any (Try.prog.loopsFrom ·))) = true := by kernel_rfl
theorem factD22 : ((Rows.fnStanzaDeleteAllKeepsEachRemainingFieldsLineRow.plainKeys == Try.prog.plainKeys)) = true := by kernel_rfl
theorem factD23 : (Rows.fnStanzaDeleteAllKeepsEachRemainingFieldsLineRow.shortTexts.isNone) = true := by kernel_rfl
theorem factD24 : (Try.prog.stopsHeard) = true := by kernel_rfl
theorem factD25 : (Try.prog.mayEnter) = true := mayEnter_is
theorem factD26 : ((Rows.fnStanzaDeleteAllKeepsEachRemainingFieldsLineRow.lifted == Try.prog.liftsFinal)) = true := (congrArg (fun b => (Rows.fnStanzaDeleteAllKeepsEachRemainingFieldsLineRow.lifted == b)) liftsFinal_is).trans (by kernel_rfl)
theorem factD27 : ((Try.prog.make == some Rows.fnStanzaDeleteAllKeepsEachRemainingFieldsLineRow.make)) = true := (congrArg (fun b => (b == some Rows.fnStanzaDeleteAllKeepsEachRemainingFieldsLineRow.make)) make_is).trans (by kernel_rfl)
theorem factD28 : (kindsFit Try.prog Try.f14 Rows.fnStanzaDeleteAllKeepsEachRemainingFieldsLineRow) = true := by kernel_rfl
theorem factD29 : ((Rows.fnStanzaDeleteAllKeepsEachRemainingFieldsLineRow.pinned == Rows.fnStanzaDeleteAllKeepsEachRemainingFieldsLineRow.pinnedBy)) = true := by kernel_rfl
theorem factD30 : ((Rows.fnStanzaDeleteAllKeepsEachRemainingFieldsLineRow.veiled == (Try.f14.params.toList ++ Rows.fnStanzaDeleteAllKeepsEachRemainingFieldsLineSpec.plain.varTypes Try.prog ++ Try.f14.resultTypes.toList).any (Try.prog.veiledRec ·))) = true := by kernel_rfl
theorem factD31 : (Rows.fnStanzaDeleteAllKeepsEachRemainingFieldsLineRow.veiledFits Try.prog Try.f14.params.toList (Try.f14.params.toList ++ Rows.fnStanzaDeleteAllKeepsEachRemainingFieldsLineSpec.plain.varTypes Try.prog ++ Try.f14.resultTypes.toList)) = true := by kernel_rfl
theorem factD : joinedFacts Try.prog 14 Try.f14 Rows.fnStanzaDeleteAllKeepsEachRemainingFieldsLineSpec Rows.fnStanzaDeleteAllKeepsEachRemainingFieldsLineRow = true :=
  facts_of (P := Try.prog) (f := 14) (fn := Try.f14) (s := Rows.fnStanzaDeleteAllKeepsEachRemainingFieldsLineSpec) (c := Rows.fnStanzaDeleteAllKeepsEachRemainingFieldsLineRow) factD0 factD1 factD2 factD3 factD4 factD5 factD6 factD7 factD8 factD9 factD10 factD11 factD12 factD13 factD14 factD15 factD16 factD17 factD18 factD19 factD20 factD21 factD22 factD23 factD24 factD25 factD26 factD27 factD28 factD29 factD30 factD31
end Go.Proofs.Qxb6001690a
