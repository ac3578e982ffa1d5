import Derived.Test.Qxb6600888aHead
namespace Go.Proofs.Qxb6600888a
set_option linter.unusedVariables false

theorem factT0 : (Rows.fnBuildTreeIsTheTrieOfTheNamesRow.wf (OpenSpec.ofChange Rows.fnBuildTreeIsTheTrieOfTheNamesSpec)) = true := by kernel_rfl
theorem factT1 : (laidOutB Try.prog) = true := by kernel_rfl
theorem factT2 : (mapsRowed Try.prog) = true := by kernel_rfl
theorem factT3 : (Try.f3.params.all (Try.prog.readableRec ·)) = true := by kernel_rfl
theorem factT4 : (namedTie Try.prog Rows.fnBuildTreeIsTheTrieOfTheNamesRow.named Rows.fnBuildTreeIsTheTrieOfTheNamesSpec.vars) = true := by kernel_rfl
theorem factT5 : ((Rows.fnBuildTreeIsTheTrieOfTheNamesRow.stops == [])) = true := by kernel_rfl
theorem factT6 : ((Try.prog.stops == [])) = true := by kernel_rfl
theorem factT7 : ((Rows.fnBuildTreeIsTheTrieOfTheNamesRow.knobs == [])) = true := by kernel_rfl
theorem factT8 : ((Try.prog.stopKnobs == [])) = true := by kernel_rfl
theorem factT9 : ((Rows.fnBuildTreeIsTheTrieOfTheNamesRow.inPlace == Try.prog.inPlace 3)) = true := by kernel_rfl
theorem factT10 : ((Rows.fnBuildTreeIsTheTrieOfTheNamesRow.unfollowed == Try.prog.unfollowed 3)) = true := by kernel_rfl
theorem factT11 : ((Rows.fnBuildTreeIsTheTrieOfTheNamesRow.recurses == Try.prog.recurses 3)) = true := by kernel_rfl
theorem factT12 : ((Rows.fnBuildTreeIsTheTrieOfTheNamesRow.named == Try.prog.varsNamed 3)) = true := by kernel_rfl
theorem factT13 : ((Rows.fnBuildTreeIsTheTrieOfTheNamesRow.maps == (Try.f3.params.toList ++ Rows.fnBuildTreeIsTheTrieOfTheNamesSpec.plain.varTypes Try.prog).any (Try.prog.mapsRec ·))) = true := by kernel_rfl
theorem factT14 : ((Rows.fnBuildTreeIsTheTrieOfTheNamesRow.ifaces == (Try.f3.params.toList ++ Rows.fnBuildTreeIsTheTrieOfTheNamesSpec.plain.varTypes Try.prog).any (Try.prog.ifacesRec ·))) = true := by kernel_rfl
theorem factT15 : ((Rows.fnBuildTreeIsTheTrieOfTheNamesRow.mapsOut == Try.prog.mapsAmong Try.f3.resultTypes.toList)) = true := by kernel_rfl
theorem factT16 : ((Rows.fnBuildTreeIsTheTrieOfTheNamesRow.loops == (Try.f3.params.toList ++ Rows.fnBuildTreeIsTheTrieOfTheNamesSpec.plain.varTypes Try.prog).any (Try.prog.loopsFrom ·))) = true := by kernel_rfl
theorem factT17 : ((Rows.fnBuildTreeIsTheTrieOfTheNamesRow.wideKeys == (Try.f3.params.toList ++ Rows.fnBuildTreeIsTheTrieOfTheNamesSpec.plain.varTypes Try.prog ++ Try.f3.resultTypes.toList).any (Try.prog.wideKeysFrom ·))) = true := by kernel_rfl
theorem factT18 : (Rows.fnBuildTreeIsTheTrieOfTheNamesSpec.vars.all (Try.prog.varReadable ·)) = true := by kernel_rfl
theorem factT19 : (Try.f3.resultTypes.all (fun t => Try.prog.readableRec t && decide (t < Try.prog.types.size))) = true := by kernel_rfl
theorem factT20 : ((Rows.fnBuildTreeIsTheTrieOfTheNamesRow.ifacesOut == Try.f3.resultTypes.toList.any (Try.prog.ifacesRec ·))) = true := by kernel_rfl
theorem factT21 : ((Rows.fnBuildTreeIsTheTrieOfTheNamesRow.loopsOut == Try.f3.resultTypes.toList.any (Try.prog.loopsFrom ·))) = true := by kernel_rfl
theorem factT22 : ((Rows.fnBuildTreeIsTheTrieOfTheNamesRow.plainKeys == Try.prog.plainKeys)) = true := by kernel_rfl
theorem factT23 : (Rows.fnBuildTreeIsTheTrieOfTheNamesRow.shortTexts.isNone) = true := by kernel_rfl
theorem factT24 : (Try.prog.stopsHeard) = true := by kernel_rfl
theorem factT25 : (Try.prog.mayEnter) = true := mayEnter_is
theorem factT26 : ((Rows.fnBuildTreeIsTheTrieOfTheNamesRow.lifted == Try.prog.liftsFinal)) = true := (congrArg (fun b => (Rows.fnBuildTreeIsTheTrieOfTheNamesRow.lifted == b)) liftsFinal_is).trans (by kernel_rfl)
theorem factT27 : ((Try.prog.make == some Rows.fnBuildTreeIsTheTrieOfTheNamesRow.make)) = true := (congrArg (fun b => (b == some Rows.fnBuildTreeIsTheTrieOfTheNamesRow.make)) make_is).trans (by kernel_rfl)
theorem factT28 : (kindsFit Try.prog Try.f3 Rows.fnBuildTreeIsTheTrieOfTheNamesRow) = true := by kernel_rfl
theorem factT29 : ((Rows.fnBuildTreeIsTheTrieOfTheNamesRow.pinned == Rows.fnBuildTreeIsTheTrieOfTheNamesRow.pinnedBy)) = true := by kernel_rfl
theorem factT30 : ((Rows.fnBuildTreeIsTheTrieOfTheNamesRow.veiled == (Try.f3.params.toList ++ Rows.fnBuildTreeIsTheTrieOfTheNamesSpec.plain.varTypes Try.prog ++ Try.f3.resultTypes.toList).any (Try.prog.veiledRec ·))) = true := by kernel_rfl
theorem factT31 : (Rows.fnBuildTreeIsTheTrieOfTheNamesRow.veiledFits Try.prog Try.f3.params.toList (Try.f3.params.toList ++ Rows.fnBuildTreeIsTheTrieOfTheNamesSpec.plain.varTypes Try.prog ++ Try.f3.resultTypes.toList)) = true := by kernel_rfl
theorem factT : joinedFacts Try.prog 3 Try.f3 Rows.fnBuildTreeIsTheTrieOfTheNamesSpec Rows.fnBuildTreeIsTheTrieOfTheNamesRow = true :=
  facts_of (P := Try.prog) (f := 3) (fn := Try.f3) (s := Rows.fnBuildTreeIsTheTrieOfTheNamesSpec) (c := Rows.fnBuildTreeIsTheTrieOfTheNamesRow) factT0 factT1 factT2 factT3 factT4 factT5 factT6 factT7 factT8 factT9 factT10 factT11 factT12 factT13 factT14 factT15 factT16 factT17 factT18 factT19 factT20 factT21 factT22 factT23 factT24 factT25 factT26 factT27 factT28 factT29 factT30 factT31
end Go.Proofs.Qxb6600888a
