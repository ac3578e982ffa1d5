import Derived.Test.Qxb6001690aHead
namespace Go.Proofs.Qxb6001690a
set_option linter.unusedVariables false

theorem factS0 : (Rows.fnStanzaSetLinesRoundTripsThroughFieldLinesRow.wf (OpenSpec.ofChange Rows.fnStanzaSetLinesRoundTripsThroughFieldLinesSpec)) = true := by kernel_rfl
theorem factS1 : (laidOutB Try.prog) = true := by kernel_rfl
theorem factS2 : (mapsRowed Try.prog) = true := by kernel_rfl
theorem factS3 : (Try.f13.params.all (Try.prog.readableRec ·)) = true := by kernel_rfl
theorem factS4 : (namedTie Try.prog Rows.fnStanzaSetLinesRoundTripsThroughFieldLinesRow.named Rows.fnStanzaSetLinesRoundTripsThroughFieldLinesSpec.vars) = true := by kernel_rfl
theorem factS5 : ((Rows.fnStanzaSetLinesRoundTripsThroughFieldLinesRow.stops == [])) = true := by kernel_rfl
theorem factS6 : ((Try.prog.stops == [])) = true := by kernel_rfl
theorem factS7 : ((Rows.fnStanzaSetLinesRoundTripsThroughFieldLinesRow.knobs == [])) = true := by kernel_rfl
theorem factS8 : ((Try.prog.stopKnobs == [])) = true := by kernel_rfl
theorem factS9 : ((Rows.fnStanzaSetLinesRoundTripsThroughFieldLinesRow.inPlace == Try.prog.inPlace 13)) = true := by kernel_rfl
theorem factS10 : ((Rows.fnStanzaSetLinesRoundTripsThroughFieldLinesRow.unfollowed == Try.prog.unfollowed 13)) = true := by kernel_rfl
theorem factS11 : ((Rows.fnStanzaSetLinesRoundTripsThroughFieldLinesRow.recurses == Try.prog.recurses 13)) = true := by kernel_rfl
theorem factS12 : ((Rows.fnStanzaSetLinesRoundTripsThroughFieldLinesRow.named == Try.prog.varsNamed 13)) = true := by kernel_rfl
theorem factS13 : ((Rows.fnStanzaSetLinesRoundTripsThroughFieldLinesRow.maps == (Try.f13.params.toList ++ Rows.fnStanzaSetLinesRoundTripsThroughFieldLinesSpec.plain.varTypes Try.prog).any (Try.prog.mapsRec ·))) = true := by kernel_rfl
theorem factS14 : ((Rows.fnStanzaSetLinesRoundTripsThroughFieldLinesRow.ifaces == (Try.f13.params.toList ++ Rows.fnStanzaSetLinesRoundTripsThroughFieldLinesSpec.plain.varTypes Try.prog).any (Try.prog.ifacesRec ·))) = true := by kernel_rfl
theorem factS15 : ((Rows.fnStanzaSetLinesRoundTripsThroughFieldLinesRow.mapsOut == Try.prog.mapsAmong Try.f13.resultTypes.toList)) = true := by kernel_rfl
theorem factS16 : ((Rows.fnStanzaSetLinesRoundTripsThroughFieldLinesRow.loops == (Try.f13.params.toList ++ Rows.fnStanzaSetLinesRoundTripsThroughFieldLinesSpec.plain.varTypes Try.prog).any (Try.prog.loopsFrom ·))) = true := by kernel_rfl
theorem factS17 : ((Rows.fnStanzaSetLinesRoundTripsThroughFieldLinesRow.wideKeys == (Try.f13.params.toList ++ Rows.fnStanzaSetLinesRoundTripsThroughFieldLinesSpec.plain.varTypes Try.prog ++ Try.f13.resultTypes.toList).any (Try.prog.wideKeysFrom ·))) = true := by kernel_rfl
theorem factS18 : (Rows.fnStanzaSetLinesRoundTripsThroughFieldLinesSpec.vars.all (Try.prog.varReadable ·)) = true := by kernel_rfl
theorem factS19 : (Try.f13.resultTypes.all (fun t => Try.prog.readableRec t && decide (t < Try.prog.types.size))) = true := by kernel_rfl
theorem factS20 : ((Rows.fnStanzaSetLinesRoundTripsThroughFieldLinesRow.ifacesOut == Try.f13.resultTypes.toList.any (Try.prog.ifacesRec ·))) = true := by kernel_rfl
theorem factS21 : ((Rows.fnStanzaSetLinesRoundTripsThroughFieldLinesRow.loopsOut == Try.f13.resultTypes.toList.any (Try.prog.loopsFrom ·))) = true := by kernel_rfl
theorem factS22 : ((Rows.fnStanzaSetLinesRoundTripsThroughFieldLinesRow.plainKeys == Try.prog.plainKeys)) = true := by kernel_rfl
theorem factS23 : (Rows.fnStanzaSetLinesRoundTripsThroughFieldLinesRow.shortTexts.isNone) = true := by kernel_rfl
theorem factS24 : (Try.prog.stopsHeard) = true := by kernel_rfl
theorem factS25 : (Try.prog.mayEnter) = true := mayEnter_is
theorem factS26 : ((Rows.fnStanzaSetLinesRoundTripsThroughFieldLinesRow.lifted == Try.prog.liftsFinal)) = true := (congrArg (fun b => (Rows.fnStanzaSetLinesRoundTripsThroughFieldLinesRow.lifted == b)) liftsFinal_is).trans (by kernel_rfl)
theorem factS27 : ((Try.prog.make == some Rows.fnStanzaSetLinesRoundTripsThroughFieldLinesRow.make)) = true := (congrArg (fun b => (b == some Rows.fnStanzaSetLinesRoundTripsThroughFieldLinesRow.make)) make_is).trans (by kernel_rfl)
theorem factS28 : (kindsFit Try.prog Try.f13 Rows.fnStanzaSetLinesRoundTripsThroughFieldLinesRow) = true := by kernel_rfl
theorem factS29 : ((Rows.fnStanzaSetLinesRoundTripsThroughFieldLinesRow.pinned == Rows.fnStanzaSetLinesRoundTripsThroughFieldLinesRow.pinnedBy)) = true := by kernel_rfl
theorem factS30 : ((Rows.fnStanzaSetLinesRoundTripsThroughFieldLinesRow.veiled == (Try.f13.params.toList ++ Rows.fnStanzaSetLinesRoundTripsThroughFieldLinesSpec.plain.varTypes Try.prog ++ Try.f13.resultTypes.toList).any (Try.prog.veiledRec ·))) = true := by kernel_rfl
theorem factS31 : (Rows.fnStanzaSetLinesRoundTripsThroughFieldLinesRow.veiledFits Try.prog Try.f13.params.toList (Try.f13.params.toList ++ Rows.fnStanzaSetLinesRoundTripsThroughFieldLinesSpec.plain.varTypes Try.prog ++ Try.f13.resultTypes.toList)) = true := by kernel_rfl
theorem factS : joinedFacts Try.prog 13 Try.f13 Rows.fnStanzaSetLinesRoundTripsThroughFieldLinesSpec Rows.fnStanzaSetLinesRoundTripsThroughFieldLinesRow = true :=
  facts_of (P := Try.prog) (f := 13) (fn := Try.f13) (s := Rows.fnStanzaSetLinesRoundTripsThroughFieldLinesSpec) (c := Rows.fnStanzaSetLinesRoundTripsThroughFieldLinesRow) factS0 factS1 factS2 factS3 factS4 factS5 factS6 factS7 factS8 factS9 factS10 factS11 factS12 factS13 factS14 factS15 factS16 factS17 factS18 factS19 factS20 factS21 factS22 factS23 factS24 factS25 factS26 factS27 factS28 factS29 factS30 factS31
end Go.Proofs.Qxb6001690a
