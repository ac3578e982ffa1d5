import Derived.Test.Qxb6600360aHead
namespace Go.Proofs.Qxb6600360a
set_option linter.unusedVariables false

theorem factL0 : (Rows.fnReadLiteralMatchesSpecRow.wf (OpenSpec.ofChange Rows.fnReadLiteralMatchesSpecSpec)) = true := by kernel_rfl
theorem factL1 : (laidOutB Try.prog) = true := by kernel_rfl
theorem factL2 : (mapsRowed Try.prog) = true := by kernel_rfl
theorem factL3 : (Try.f3.params.all (Try.prog.readableRec ·)) = true := by kernel_rfl
theorem factL4 : (namedTie Try.prog Rows.fnReadLiteralMatchesSpecRow.named Rows.fnReadLiteralMatchesSpecSpec.vars) = true := by kernel_rfl
theorem factL5 : ((Rows.fnReadLiteralMatchesSpecRow.stops == [])) = true := by kernel_rfl
theorem factL6 : ((Try.prog.stops == [])) = true := by kernel_rfl
theorem factL7 : ((Rows.fnReadLiteralMatchesSpecRow.knobs == [])) = true := by kernel_rfl
theorem factL8 : ((Try.prog.stopKnobs == [])) = true := by kernel_rfl
theorem factL9 : ((Rows.fnReadLiteralMatchesSpecRow.inPlace == Try.prog.inPlace 3)) = true := by kernel_rfl
theorem factL10 : ((Rows.fnReadLiteralMatchesSpecRow.unfollowed == Try.prog.unfollowed 3)) = true := by kernel_rfl
theorem factL11 : ((Rows.fnReadLiteralMatchesSpecRow.recurses == Try.prog.recurses 3)) = true := by kernel_rfl
theorem factL12 : ((Rows.fnReadLiteralMatchesSpecRow.named == Try.prog.varsNamed 3)) = true := by kernel_rfl
theorem factL13 : ((Rows.fnReadLiteralMatchesSpecRow.maps == (Try.f3.params.toList ++ Rows.fnReadLiteralMatchesSpecSpec.plain.varTypes Try.prog).any (Try.prog.mapsRec ·))) = true := by kernel_rfl
theorem factL14 : ((Rows.fnReadLiteralMatchesSpecRow.ifaces == (Try.f3.params.toList ++ Rows.fnReadLiteralMatchesSpecSpec.plain.varTypes Try.prog).any (Try.prog.ifacesRec ·))) = true := by kernel_rfl
theorem factL15 : ((Rows.fnReadLiteralMatchesSpecRow.mapsOut == Try.prog.mapsAmong Try.f3.resultTypes.toList)) = true := by kernel_rfl
theorem factL16 : ((Rows.fnReadLiteralMatchesSpecRow.loops == (Try.f3.params.toList ++ Rows.fnReadLiteralMatchesSpecSpec.plain.varTypes Try.prog).any (Try.prog.loopsFrom ·))) = true := by kernel_rfl
theorem factL17 : ((Rows.fnReadLiteralMatchesSpecRow.wideKeys == (Try.f3.params.toList ++ Rows.fnReadLiteralMatchesSpecSpec.plain.varTypes Try.prog ++ Try.f3.resultTypes.toList).any (Try.prog.wideKeysFrom ·))) = true := by kernel_rfl
theorem factL18 : (Rows.fnReadLiteralMatchesSpecSpec.vars.all (Try.prog.varReadable ·)) = true := by kernel_rfl
theorem factL19 : (Try.f3.resultTypes.all (fun t => Try.prog.readableRec t && decide (t < Try.prog.types.size))) = true := by kernel_rfl
theorem factL20 : ((Rows.fnReadLiteralMatchesSpecRow.ifacesOut == Try.f3.resultTypes.toList.any (Try.prog.ifacesRec ·))) = true := by kernel_rfl
theorem factL21 : ((Rows.fnReadLiteralMatchesSpecRow.loopsOut == Try.f3.resultTypes.toList.any (Try.prog.loopsFrom ·))) = true := by kernel_rfl
theorem factL22 : ((Rows.fnReadLiteralMatchesSpecRow.plainKeys == Try.prog.plainKeys)) = true := by kernel_rfl
theorem factL23 : (Rows.fnReadLiteralMatchesSpecRow.shortTexts.isNone) = true := by kernel_rfl
theorem factL24 : (Try.prog.stopsHeard) = true := by kernel_rfl
theorem factL25 : (Try.prog.mayEnter) = true := mayEnter_is
theorem factL26 : ((Rows.fnReadLiteralMatchesSpecRow.lifted == Try.prog.liftsFinal)) = true := (congrArg (fun b => (Rows.fnReadLiteralMatchesSpecRow.lifted == b)) liftsFinal_is).trans (by kernel_rfl)
theorem factL27 : ((Try.prog.make == some Rows.fnReadLiteralMatchesSpecRow.make)) = true := (congrArg (fun b => (b == some Rows.fnReadLiteralMatchesSpecRow.make)) make_is).trans (by kernel_rfl)
theorem factL28 : (kindsFit Try.prog Try.f3 Rows.fnReadLiteralMatchesSpecRow) = true := by kernel_rfl
theorem factL29 : ((Rows.fnReadLiteralMatchesSpecRow.pinned == Rows.fnReadLiteralMatchesSpecRow.pinnedBy)) = true := by kernel_rfl
theorem factL30 : ((Rows.fnReadLiteralMatchesSpecRow.veiled == (Try.f3.params.toList ++ Rows.fnReadLiteralMatchesSpecSpec.plain.varTypes Try.prog ++ Try.f3.resultTypes.toList).any (Try.prog.veiledRec ·))) = true := by kernel_rfl
theorem factL31 : (Rows.fnReadLiteralMatchesSpecRow.veiledFits Try.prog Try.f3.params.toList (Try.f3.params.toList ++ Rows.fnReadLiteralMatchesSpecSpec.plain.varTypes Try.prog ++ Try.f3.resultTypes.toList)) = true := by kernel_rfl
theorem factL : joinedFacts Try.prog 3 Try.f3 Rows.fnReadLiteralMatchesSpecSpec Rows.fnReadLiteralMatchesSpecRow = true :=
  facts_of (P := Try.prog) (f := 3) (fn := Try.f3) (s := Rows.fnReadLiteralMatchesSpecSpec) (c := Rows.fnReadLiteralMatchesSpecRow) factL0 factL1 factL2 factL3 factL4 factL5 factL6 factL7 factL8 factL9 factL10 factL11 factL12 factL13 factL14 factL15 factL16 factL17 factL18 factL19 factL20 factL21 factL22 factL23 factL24 factL25 factL26 factL27 factL28 factL29 factL30 factL31
end Go.Proofs.Qxb6600360a
