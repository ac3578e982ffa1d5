import Derived.Test.Qxb6001690aHead
namespace Go.Proofs.Qxb6001690a
set_option linter.unusedVariables false

theorem factF0 : (Rows.fnFieldFindsFirstOfNameRow.wf (OpenSpec.ofChange Rows.fnFieldFindsFirstOfNameSpec)) = true := by kernel_rfl
theorem factF1 : (laidOutB Try.prog) = true := by kernel_rfl
theorem factF2 : (mapsRowed Try.prog) = true := by kernel_rfl
theorem factF3 : (Try.f6.params.all (Try.prog.readableRec ·)) = true := by kernel_rfl
theorem factF4 : (namedTie Try.prog Rows.fnFieldFindsFirstOfNameRow.named Rows.fnFieldFindsFirstOfNameSpec.vars) = true := by kernel_rfl
theorem factF5 : ((Rows.fnFieldFindsFirstOfNameRow.stops == [])) = true := by kernel_rfl
theorem factF6 : ((Try.prog.stops == [])) = true := by kernel_rfl
theorem factF7 : ((Rows.fnFieldFindsFirstOfNameRow.knobs == [])) = true := by kernel_rfl
theorem factF8 : ((Try.prog.stopKnobs == [])) = true := by kernel_rfl
theorem factF9 : ((Rows.fnFieldFindsFirstOfNameRow.inPlace == Try.prog.inPlace 6)) = true := by kernel_rfl
theorem factF10 : ((Rows.fnFieldFindsFirstOfNameRow.unfollowed == Try.prog.unfollowed 6)) = true := by kernel_rfl
theorem factF11 : ((Rows.fnFieldFindsFirstOfNameRow.recurses == Try.prog.recurses 6)) = true := by kernel_rfl
theorem factF12 : ((Rows.fnFieldFindsFirstOfNameRow.named == Try.prog.varsNamed 6)) = true := by kernel_rfl
theorem factF13 : ((Rows.fnFieldFindsFirstOfNameRow.maps == (Try.f6.params.toList ++ Rows.fnFieldFindsFirstOfNameSpec.plain.varTypes Try.prog).any (Try.prog.mapsRec ·))) = true := by kernel_rfl
theorem factF14 : ((Rows.fnFieldFindsFirstOfNameRow.ifaces == (Try.f6.params.toList ++ Rows.fnFieldFindsFirstOfNameSpec.plain.varTypes Try.prog).any (Try.prog.ifacesRec ·))) = true := by kernel_rfl
theorem factF15 : ((Rows.fnFieldFindsFirstOfNameRow.mapsOut == Try.prog.mapsAmong Try.f6.resultTypes.toList)) = true := by kernel_rfl
theorem factF16 : ((Rows.fnFieldFindsFirstOfNameRow.loops == (Try.f6.params.toList ++ Rows.fnFieldFindsFirstOfNameSpec.plain.varTypes Try.prog).any (Try.prog.loopsFrom ·))) = true := by kernel_rfl
theorem factF17 : ((Rows.fnFieldFindsFirstOfNameRow.wideKeys == (Try.f6.params.toList ++ Rows.fnFieldFindsFirstOfNameSpec.plain.varTypes Try.prog ++ Try.f6.resultTypes.toList).any (Try.prog.wideKeysFrom ·))) = true := by kernel_rfl
theorem factF18 : (Rows.fnFieldFindsFirstOfNameSpec.vars.all (Try.prog.varReadable ·)) = true := by kernel_rfl
theorem factF19 : (Try.f6.resultTypes.all (fun t => Try.prog.readableRec t && decide (t < Try.prog.types.size))) = true := by kernel_rfl
theorem factF20 : ((Rows.fnFieldFindsFirstOfNameRow.ifacesOut == Try.f6.resultTypes.toList.any (Try.prog.ifacesRec ·))) = true := by kernel_rfl
theorem factF21 : ((Rows.fnFieldFindsFirstOfNameRow.loopsOut == Try.f6.resultTypes.toList.any (Try.prog.loopsFrom ·))) = true := by kernel_rfl
theorem factF22 : ((Rows.fnFieldFindsFirstOfNameRow.plainKeys == Try.prog.plainKeys)) = true := by kernel_rfl
theorem factF23 : (Rows.fnFieldFindsFirstOfNameRow.shortTexts.isNone) = true := by kernel_rfl
theorem factF24 : (Try.prog.stopsHeard) = true := by kernel_rfl
theorem factF25 : (Try.prog.mayEnter) = true := mayEnter_is
theorem factF26 : ((Rows.fnFieldFindsFirstOfNameRow.lifted == Try.prog.liftsFinal)) = true := (congrArg (fun b => (Rows.fnFieldFindsFirstOfNameRow.lifted == b)) liftsFinal_is).trans (by kernel_rfl)
theorem factF27 : ((Try.prog.make == some Rows.fnFieldFindsFirstOfNameRow.make)) = true := (congrArg (fun b => (b == some Rows.fnFieldFindsFirstOfNameRow.make)) make_is).trans (by kernel_rfl)
theorem factF28 : (kindsFit Try.prog Try.f6 Rows.fnFieldFindsFirstOfNameRow) = true := by kernel_rfl
theorem factF29 : ((Rows.fnFieldFindsFirstOfNameRow.pinned == Rows.fnFieldFindsFirstOfNameRow.pinnedBy)) = true := by kernel_rfl
theorem factF30 : ((Rows.fnFieldFindsFirstOfNameRow.veiled == (Try.f6.params.toList ++ Rows.fnFieldFindsFirstOfNameSpec.plain.varTypes Try.prog ++ Try.f6.resultTypes.toList).any (Try.prog.veiledRec ·))) = true := by kernel_rfl
theorem factF31 : (Rows.fnFieldFindsFirstOfNameRow.veiledFits Try.prog Try.f6.params.toList (Try.f6.params.toList ++ Rows.fnFieldFindsFirstOfNameSpec.plain.varTypes Try.prog ++ Try.f6.resultTypes.toList)) = true := by kernel_rfl
theorem factF : joinedFacts Try.prog 6 Try.f6 Rows.fnFieldFindsFirstOfNameSpec Rows.fnFieldFindsFirstOfNameRow = true :=
  facts_of (P := Try.prog) (f := 6) (fn := Try.f6) (s := Rows.fnFieldFindsFirstOfNameSpec) (c := Rows.fnFieldFindsFirstOfNameRow) factF0 factF1 factF2 factF3 factF4 factF5 factF6 factF7 factF8 factF9 factF10 factF11 factF12 factF13 factF14 factF15 factF16 factF17 factF18 factF19 factF20 factF21 factF22 factF23 factF24 factF25 factF26 factF27 factF28 factF29 factF30 factF31
end Go.Proofs.Qxb6001690a
