import Derived.Test.Qxb6001690aHead
namespace Go.Proofs.Qxb6001690a
set_option linter.unusedVariables false

theorem factX0 : (Rows.fnDeleteAllRemovesExactlyTheNamedRow.wf (OpenSpec.ofChange Rows.fnDeleteAllRemovesExactlyTheNamedSpec)) = true := by kernel_rfl
theorem factX1 : (laidOutB Try.prog) = true := by kernel_rfl
theorem factX2 : (mapsRowed Try.prog) = true := by kernel_rfl
theorem factX3 : (Try.f11.params.all (Try.prog.readableRec ·)) = true := by kernel_rfl
theorem factX4 : (namedTie Try.prog Rows.fnDeleteAllRemovesExactlyTheNamedRow.named Rows.fnDeleteAllRemovesExactlyTheNamedSpec.vars) = true := by kernel_rfl
theorem factX5 : ((Rows.fnDeleteAllRemovesExactlyTheNamedRow.stops == [])) = true := by kernel_rfl
theorem factX6 : ((Try.prog.stops == [])) = true := by kernel_rfl
theorem factX7 : ((Rows.fnDeleteAllRemovesExactlyTheNamedRow.knobs == [])) = true := by kernel_rfl
theorem factX8 : ((Try.prog.stopKnobs == [])) = true := by kernel_rfl
theorem factX9 : ((Rows.fnDeleteAllRemovesExactlyTheNamedRow.inPlace == Try.prog.inPlace 11)) = true := by kernel_rfl
theorem factX10 : ((Rows.fnDeleteAllRemovesExactlyTheNamedRow.unfollowed == Try.prog.unfollowed 11)) = true := by kernel_rfl
theorem factX11 : ((Rows.fnDeleteAllRemovesExactlyTheNamedRow.recurses == Try.prog.recurses 11)) = true := by kernel_rfl
theorem factX12 : ((Rows.fnDeleteAllRemovesExactlyTheNamedRow.named == Try.prog.varsNamed 11)) = true := by kernel_rfl
theorem factX13 : ((Rows.fnDeleteAllRemovesExactlyTheNamedRow.maps == (Try.f11.params.toList ++ Rows.fnDeleteAllRemovesExactlyTheNamedSpec.plain.varTypes Try.prog).any (Try.prog.mapsRec ·))) = true := by kernel_rfl
theorem factX14 : ((Rows.fnDeleteAllRemovesExactlyTheNamedRow.ifaces == (Try.f11.params.toList ++ Rows.fnDeleteAllRemovesExactlyTheNamedSpec.plain.varTypes Try.prog).any (Try.prog.ifacesRec ·))) = true := by kernel_rfl
theorem factX15 : ((Rows.fnDeleteAllRemovesExactlyTheNamedRow.mapsOut == Try.prog.mapsAmong Try.f11.resultTypes.toList)) = true := by kernel_rfl
theorem factX16 : ((Rows.fnDeleteAllRemovesExactlyTheNamedRow.loops == (Try.f11.params.toList ++ Rows.fnDeleteAllRemovesExactlyTheNamedSpec.plain.varTypes Try.prog).any (Try.prog.loopsFrom ·))) = true := by kernel_rfl
theorem factX17 : ((Rows.fnDeleteAllRemovesExactlyTheNamedRow.wideKeys == (Try.f11.params.toList ++ Rows.fnDeleteAllRemovesExactlyTheNamedSpec.plain.varTypes Try.prog ++ Try.f11.resultTypes.toList).any (Try.prog.wideKeysFrom ·))) = true := by kernel_rfl
theorem factX18 : (Rows.fnDeleteAllRemovesExactlyTheNamedSpec.vars.all (Try.prog.varReadable ·)) = true := by kernel_rfl
theorem factX19 : (Try.f11.resultTypes.all (fun t => Try.prog.readableRec t && decide (t < Try.prog.types.size))) = true := by kernel_rfl
theorem factX20 : ((Rows.fnDeleteAllRemovesExactlyTheNamedRow.ifacesOut == Try.f11.resultTypes.toList.any (Try.prog.ifacesRec ·))) = true := by kernel_rfl
theorem factX21 : ((Rows.fnDeleteAllRemovesExactlyTheNamedRow.loopsOut == Try.f11.resultTypes.toList.any (Try.prog.loopsFrom ·))) = true := by kernel_rfl
theorem factX22 : ((Rows.fnDeleteAllRemovesExactlyTheNamedRow.plainKeys == Try.prog.plainKeys)) = true := by kernel_rfl
theorem factX23 : (Rows.fnDeleteAllRemovesExactlyTheNamedRow.shortTexts.isNone) = true := by kernel_rfl
theorem factX24 : (Try.prog.stopsHeard) = true := by kernel_rfl
theorem factX25 : (Try.prog.mayEnter) = true := mayEnter_is
theorem factX26 : ((Rows.fnDeleteAllRemovesExactlyTheNamedRow.lifted == Try.prog.liftsFinal)) = true := (congrArg (fun b => (Rows.fnDeleteAllRemovesExactlyTheNamedRow.lifted == b)) liftsFinal_is).trans (by kernel_rfl)
theorem factX27 : ((Try.prog.make == some Rows.fnDeleteAllRemovesExactlyTheNamedRow.make)) = true := (congrArg (fun b => (b == some Rows.fnDeleteAllRemovesExactlyTheNamedRow.make)) make_is).trans (by kernel_rfl)
theorem factX28 : (kindsFit Try.prog Try.f11 Rows.fnDeleteAllRemovesExactlyTheNamedRow) = true := by kernel_rfl
theorem factX29 : ((Rows.fnDeleteAllRemovesExactlyTheNamedRow.pinned == Rows.fnDeleteAllRemovesExactlyTheNamedRow.pinnedBy)) = true := by kernel_rfl
theorem factX30 : ((Rows.fnDeleteAllRemovesExactlyTheNamedRow.veiled == (Try.f11.params.toList ++ Rows.fnDeleteAllRemovesExactlyTheNamedSpec.plain.varTypes Try.prog ++ Try.f11.resultTypes.toList).any (Try.prog.veiledRec ·))) = true := by kernel_rfl
theorem factX31 : (Rows.fnDeleteAllRemovesExactlyTheNamedRow.veiledFits Try.prog Try.f11.params.toList (Try.f11.params.toList ++ Rows.fnDeleteAllRemovesExactlyTheNamedSpec.plain.varTypes Try.prog ++ Try.f11.resultTypes.toList)) = true := by kernel_rfl
theorem factX : joinedFacts Try.prog 11 Try.f11 Rows.fnDeleteAllRemovesExactlyTheNamedSpec Rows.fnDeleteAllRemovesExactlyTheNamedRow = true :=
  facts_of (P := Try.prog) (f := 11) (fn := Try.f11) (s := Rows.fnDeleteAllRemovesExactlyTheNamedSpec) (c := Rows.fnDeleteAllRemovesExactlyTheNamedRow) factX0 factX1 factX2 factX3 factX4 factX5 factX6 factX7 factX8 factX9 factX10 factX11 factX12 factX13 factX14 factX15 factX16 factX17 factX18 factX19 factX20 factX21 factX22 factX23 factX24 factX25 factX26 factX27 factX28 factX29 factX30 factX31
end Go.Proofs.Qxb6001690a
