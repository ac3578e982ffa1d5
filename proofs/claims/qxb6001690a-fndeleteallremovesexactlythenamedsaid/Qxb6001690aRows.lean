/-
  No cell of these rows narrows 'for every input' (looked for: loops, veiled, ifaces, maps, wideKeys, modest, calm, conditions, laid).
  DERIVED. THE GIVEN ROWS OF THIS SEAT. 12 by the template 'for every input the law returns true; each argument reads behind the call as it read before'; 0 by the template 'total and deterministic' (their statements: Qxb6001690aTotals.lean).
  GIVEN WITH THE SEED: the statements are not yours to turn. If you find one false, say at which input.
  Laid BY PROGRAM, IN A SANDBOX (cutbox-rows.mjs): the forced cells as the released guide's own fill.sh prints them over the translation 08e6166c5ce7f05f… (all of the seat's roots in one cut). By AI agents, Wed Nov 11 2026. No macro, syntax, notation, axiom, sorry.
-/
import Derived.Test.Qxb6001690aChecked
import GoSem.Claim
import GoSem.ClaimJoined
import GoSem.ClaimMapViews
import Derived.JoinedTies
import Derived.KernelRfl
namespace Go.Proofs.Qxb6001690a
/- THE CELL 'sum', in the pinned program and in every row, IS THE sha256 OF THE DUMP (.gsa) THAT Qxb6001690aProg.lean LOADS. Nothing in Lean hashes anything: it is a label: what it is worth is what the hold of that sum in a sandbox is worth. -/
noncomputable def Try.pinned : Pinned := { name := "qxb6001690a", sum := "08e6166c5ce7f05f570422f2c0bb60207acc54f330de13fb39b8825fb11a1fbe", checked := Try.checked }
namespace Rows
def none {H : Type} : Left H := { results := [], args := [] }

/-- 'zzlaws_root_g1.FnArmourRoundTrip': WHATEVER THE INPUT: true; the input reads as it did. -/
def fnArmourRoundTripSpec : ChangeSpec := { name := "fnArmourRoundTrip", fn := fun _ => fun
  | [d1, d2, d3, d4, d5] => { results := [.lit (.bool true)], args := [d1, d2, d3, d4, d5] }
  | _ => none }
def fnArmourRoundTripRow : OpenClaim := { program := "qxb6001690a", sum := "08e6166c5ce7f05f570422f2c0bb60207acc54f330de13fb39b8825fb11a1fbe", func := "example.com/leaf/leaf/zzlaws_root_g1.FnArmourRoundTrip", spec := "fnArmourRoundTrip", plainKeys := false, apart := false }
def FnArmourRoundTripSaid : Prop := fnArmourRoundTripRow.holds Try.pinned (OpenSpec.ofChange fnArmourRoundTripSpec)

/-- ITS FALSE NEIGHBOUR: 'it returns false'. Refute it at one input. -/
def fnArmourRoundTripWrong : ChangeSpec := { name := "fnArmourRoundTrip", fn := fun _ => fun
  | [d1, d2, d3, d4, d5] => { results := [.lit (.bool false)], args := [d1, d2, d3, d4, d5] }
  | _ => none }
def FnArmourRoundTripWrongFalsely : Prop := fnArmourRoundTripRow.holds Try.pinned (OpenSpec.ofChange fnArmourRoundTripWrong)

/-- 'zzlaws_root_g1.FnArmourPartsOnlyMoveForward': WHATEVER THE INPUT: true; the input reads as it did. -/
def fnArmourPartsOnlyMoveForwardSpec : ChangeSpec := { name := "fnArmourPartsOnlyMoveForward", fn := fun _ => fun
  | [d1, d2] => { results := [.lit (.bool true)], args := [d1, d2] }
  | _ => none }
def fnArmourPartsOnlyMoveForwardRow : OpenClaim := { program := "qxb6001690a", sum := "08e6166c5ce7f05f570422f2c0bb60207acc54f330de13fb39b8825fb11a1fbe", func := "example.com/leaf/leaf/zzlaws_root_g1.FnArmourPartsOnlyMoveForward", spec := "fnArmourPartsOnlyMoveForward", plainKeys := false, apart := false }
def FnArmourPartsOnlyMoveForwardSaid : Prop := fnArmourPartsOnlyMoveForwardRow.holds Try.pinned (OpenSpec.ofChange fnArmourPartsOnlyMoveForwardSpec)

/-- ITS FALSE NEIGHBOUR: 'it returns false'. Refute it at one input. -/
def fnArmourPartsOnlyMoveForwardWrong : ChangeSpec := { name := "fnArmourPartsOnlyMoveForward", fn := fun _ => fun
  | [d1, d2] => { results := [.lit (.bool false)], args := [d1, d2] }
  | _ => none }
def FnArmourPartsOnlyMoveForwardWrongFalsely : Prop := fnArmourPartsOnlyMoveForwardRow.holds Try.pinned (OpenSpec.ofChange fnArmourPartsOnlyMoveForwardWrong)

/-- 'zzlaws_root_g1.FnAppendFieldReadsBack': WHATEVER THE INPUT: true; the input reads as it did. -/
def fnAppendFieldReadsBackSpec : ChangeSpec := { name := "fnAppendFieldReadsBack", fn := fun _ => fun
  | [d1, d2, d3, d4, d5] => { results := [.lit (.bool true)], args := [d1, d2, d3, d4, d5] }
  | _ => none }
def fnAppendFieldReadsBackRow : OpenClaim := { program := "qxb6001690a", sum := "08e6166c5ce7f05f570422f2c0bb60207acc54f330de13fb39b8825fb11a1fbe", func := "example.com/leaf/leaf/zzlaws_root_g1.FnAppendFieldReadsBack", spec := "fnAppendFieldReadsBack", inPlace := ["internal/bytealg.IndexByteString", "internal/bytealg.IndexString"], named := ["internal/bytealg.MaxLen"], plainKeys := false, apart := false }
def FnAppendFieldReadsBackSaid : Prop := fnAppendFieldReadsBackRow.holds Try.pinned (OpenSpec.ofChange fnAppendFieldReadsBackSpec)

/-- ITS FALSE NEIGHBOUR: 'it returns false'. Refute it at one input. -/
def fnAppendFieldReadsBackWrong : ChangeSpec := { name := "fnAppendFieldReadsBack", fn := fun _ => fun
  | [d1, d2, d3, d4, d5] => { results := [.lit (.bool false)], args := [d1, d2, d3, d4, d5] }
  | _ => none }
def FnAppendFieldReadsBackWrongFalsely : Prop := fnAppendFieldReadsBackRow.holds Try.pinned (OpenSpec.ofChange fnAppendFieldReadsBackWrong)

/-- 'zzlaws_root_g1.FnFieldFindsFirstOfName': WHATEVER THE INPUT: true; the input reads as it did. -/
def fnFieldFindsFirstOfNameSpec : ChangeSpec := { name := "fnFieldFindsFirstOfName", fn := fun _ => fun
  | [d1, d2, d3, d4, d5, d6] => { results := [.lit (.bool true)], args := [d1, d2, d3, d4, d5, d6] }
  | _ => none }
def fnFieldFindsFirstOfNameRow : OpenClaim := { program := "qxb6001690a", sum := "08e6166c5ce7f05f570422f2c0bb60207acc54f330de13fb39b8825fb11a1fbe", func := "example.com/leaf/leaf/zzlaws_root_g1.FnFieldFindsFirstOfName", spec := "fnFieldFindsFirstOfName", inPlace := ["internal/bytealg.IndexByteString"], plainKeys := false, apart := false }
def FnFieldFindsFirstOfNameSaid : Prop := fnFieldFindsFirstOfNameRow.holds Try.pinned (OpenSpec.ofChange fnFieldFindsFirstOfNameSpec)

/-- ITS FALSE NEIGHBOUR: 'it returns false'. Refute it at one input. -/
def fnFieldFindsFirstOfNameWrong : ChangeSpec := { name := "fnFieldFindsFirstOfName", fn := fun _ => fun
  | [d1, d2, d3, d4, d5, d6] => { results := [.lit (.bool false)], args := [d1, d2, d3, d4, d5, d6] }
  | _ => none }
def FnFieldFindsFirstOfNameWrongFalsely : Prop := fnFieldFindsFirstOfNameRow.holds Try.pinned (OpenSpec.ofChange fnFieldFindsFirstOfNameWrong)

/-- 'zzlaws_root_g1.FnEarlierAgreesWithSearchAndUnique': WHATEVER THE INPUT: true; the input reads as it did. -/
def fnEarlierAgreesWithSearchAndUniqueSpec : ChangeSpec := { name := "fnEarlierAgreesWithSearchAndUnique", fn := fun _ => fun
  | [d1, d2, d3] => { results := [.lit (.bool true)], args := [d1, d2, d3] }
  | _ => none }
def fnEarlierAgreesWithSearchAndUniqueRow : OpenClaim := { program := "qxb6001690a", sum := "08e6166c5ce7f05f570422f2c0bb60207acc54f330de13fb39b8825fb11a1fbe", func := "example.com/leaf/leaf/zzlaws_root_g1.FnEarlierAgreesWithSearchAndUnique", spec := "fnEarlierAgreesWithSearchAndUnique", plainKeys := false, apart := false }
def FnEarlierAgreesWithSearchAndUniqueSaid : Prop := fnEarlierAgreesWithSearchAndUniqueRow.holds Try.pinned (OpenSpec.ofChange fnEarlierAgreesWithSearchAndUniqueSpec)

/-- ITS FALSE NEIGHBOUR: 'it returns false'. Refute it at one input. -/
def fnEarlierAgreesWithSearchAndUniqueWrong : ChangeSpec := { name := "fnEarlierAgreesWithSearchAndUnique", fn := fun _ => fun
  | [d1, d2, d3] => { results := [.lit (.bool false)], args := [d1, d2, d3] }
  | _ => none }
def FnEarlierAgreesWithSearchAndUniqueWrongFalsely : Prop := fnEarlierAgreesWithSearchAndUniqueRow.holds Try.pinned (OpenSpec.ofChange fnEarlierAgreesWithSearchAndUniqueWrong)

/-- 'zzlaws_root_g2.FnArmourPlainInputPassesThroughUnchanged': WHATEVER THE INPUT: true; the input reads as it did. -/
def fnArmourPlainInputPassesThroughUnchangedSpec : ChangeSpec := { name := "fnArmourPlainInputPassesThroughUnchanged", fn := fun _ => fun
  | [d] => { results := [.lit (.bool true)], args := [d] }
  | _ => none }
def fnArmourPlainInputPassesThroughUnchangedRow : OpenClaim := { program := "qxb6001690a", sum := "08e6166c5ce7f05f570422f2c0bb60207acc54f330de13fb39b8825fb11a1fbe", func := "example.com/leaf/leaf/zzlaws_root_g2.FnArmourPlainInputPassesThroughUnchanged", spec := "fnArmourPlainInputPassesThroughUnchanged", plainKeys := false, apart := false }
def FnArmourPlainInputPassesThroughUnchangedSaid : Prop := fnArmourPlainInputPassesThroughUnchangedRow.holds Try.pinned (OpenSpec.ofChange fnArmourPlainInputPassesThroughUnchangedSpec)

/-- ITS FALSE NEIGHBOUR: 'it returns false'. Refute it at one input. -/
def fnArmourPlainInputPassesThroughUnchangedWrong : ChangeSpec := { name := "fnArmourPlainInputPassesThroughUnchanged", fn := fun _ => fun
  | [d] => { results := [.lit (.bool false)], args := [d] }
  | _ => none }
def FnArmourPlainInputPassesThroughUnchangedWrongFalsely : Prop := fnArmourPlainInputPassesThroughUnchangedRow.holds Try.pinned (OpenSpec.ofChange fnArmourPlainInputPassesThroughUnchangedWrong)

/-- 'zzlaws_root_g2.FnTrimBlankEndStopsAtStartAndIsIdempotent': WHATEVER THE INPUT: true; the input reads as it did. -/
def fnTrimBlankEndStopsAtStartAndIsIdempotentSpec : ChangeSpec := { name := "fnTrimBlankEndStopsAtStartAndIsIdempotent", fn := fun _ => fun
  | [d1, d2] => { results := [.lit (.bool true)], args := [d1, d2] }
  | _ => none }
def fnTrimBlankEndStopsAtStartAndIsIdempotentRow : OpenClaim := { program := "qxb6001690a", sum := "08e6166c5ce7f05f570422f2c0bb60207acc54f330de13fb39b8825fb11a1fbe", func := "example.com/leaf/leaf/zzlaws_root_g2.FnTrimBlankEndStopsAtStartAndIsIdempotent", spec := "fnTrimBlankEndStopsAtStartAndIsIdempotent", plainKeys := false, apart := false }
def FnTrimBlankEndStopsAtStartAndIsIdempotentSaid : Prop := fnTrimBlankEndStopsAtStartAndIsIdempotentRow.holds Try.pinned (OpenSpec.ofChange fnTrimBlankEndStopsAtStartAndIsIdempotentSpec)

/-- ITS FALSE NEIGHBOUR: 'it returns false'. Refute it at one input. -/
def fnTrimBlankEndStopsAtStartAndIsIdempotentWrong : ChangeSpec := { name := "fnTrimBlankEndStopsAtStartAndIsIdempotent", fn := fun _ => fun
  | [d1, d2] => { results := [.lit (.bool false)], args := [d1, d2] }
  | _ => none }
def FnTrimBlankEndStopsAtStartAndIsIdempotentWrongFalsely : Prop := fnTrimBlankEndStopsAtStartAndIsIdempotentRow.holds Try.pinned (OpenSpec.ofChange fnTrimBlankEndStopsAtStartAndIsIdempotentWrong)

/-- 'zzlaws_root_g1.FnSetLinesRoundTrip': WHATEVER THE INPUT: true; the input reads as it did. -/
def fnSetLinesRoundTripSpec : ChangeSpec := { name := "fnSetLinesRoundTrip", fn := fun _ => fun
  | [d1, d2, d3, d4, d5, d6] => { results := [.lit (.bool true)], args := [d1, d2, d3, d4, d5, d6] }
  | _ => none }
def fnSetLinesRoundTripRow : OpenClaim := { program := "qxb6001690a", sum := "08e6166c5ce7f05f570422f2c0bb60207acc54f330de13fb39b8825fb11a1fbe", func := "example.com/leaf/leaf/zzlaws_root_g1.FnSetLinesRoundTrip", spec := "fnSetLinesRoundTrip", inPlace := ["internal/bytealg.CountString", "internal/bytealg.IndexByteString", "internal/bytealg.IndexString"], named := ["internal/bytealg.MaxLen"], plainKeys := false, apart := false }
def FnSetLinesRoundTripSaid : Prop := fnSetLinesRoundTripRow.holds Try.pinned (OpenSpec.ofChange fnSetLinesRoundTripSpec)

/-- ITS FALSE NEIGHBOUR: 'it returns false'. Refute it at one input. -/
def fnSetLinesRoundTripWrong : ChangeSpec := { name := "fnSetLinesRoundTrip", fn := fun _ => fun
  | [d1, d2, d3, d4, d5, d6] => { results := [.lit (.bool false)], args := [d1, d2, d3, d4, d5, d6] }
  | _ => none }
def FnSetLinesRoundTripWrongFalsely : Prop := fnSetLinesRoundTripRow.holds Try.pinned (OpenSpec.ofChange fnSetLinesRoundTripWrong)

/-- 'zzlaws_root_g1.FnDeleteAllRemovesExactlyTheNamed': WHATEVER THE INPUT: true; the input reads as it did. -/
def fnDeleteAllRemovesExactlyTheNamedSpec : ChangeSpec := { name := "fnDeleteAllRemovesExactlyTheNamed", fn := fun _ => fun
  | [d1, d2, d3, d4, d5, d6, d7] => { results := [.lit (.bool true)], args := [d1, d2, d3, d4, d5, d6, d7] }
  | _ => none }
def fnDeleteAllRemovesExactlyTheNamedRow : OpenClaim := { program := "qxb6001690a", sum := "08e6166c5ce7f05f570422f2c0bb60207acc54f330de13fb39b8825fb11a1fbe", func := "example.com/leaf/leaf/zzlaws_root_g1.FnDeleteAllRemovesExactlyTheNamed", spec := "fnDeleteAllRemovesExactlyTheNamed", inPlace := ["internal/bytealg.CountString", "internal/bytealg.IndexByteString", "internal/bytealg.IndexString"], named := ["internal/bytealg.MaxLen"], plainKeys := false, apart := false }
def FnDeleteAllRemovesExactlyTheNamedSaid : Prop := fnDeleteAllRemovesExactlyTheNamedRow.holds Try.pinned (OpenSpec.ofChange fnDeleteAllRemovesExactlyTheNamedSpec)

/-- ITS FALSE NEIGHBOUR: 'it returns false'. Refute it at one input. -/
def fnDeleteAllRemovesExactlyTheNamedWrong : ChangeSpec := { name := "fnDeleteAllRemovesExactlyTheNamed", fn := fun _ => fun
  | [d1, d2, d3, d4, d5, d6, d7] => { results := [.lit (.bool false)], args := [d1, d2, d3, d4, d5, d6, d7] }
  | _ => none }
def FnDeleteAllRemovesExactlyTheNamedWrongFalsely : Prop := fnDeleteAllRemovesExactlyTheNamedRow.holds Try.pinned (OpenSpec.ofChange fnDeleteAllRemovesExactlyTheNamedWrong)

/-- 'zzlaws_root_g1.FnProblemListDecodesBack': WHATEVER THE INPUT: true; the input reads as it did. -/
def fnProblemListDecodesBackSpec : ChangeSpec := { name := "fnProblemListDecodesBack", fn := fun _ => fun
  | [d1, d2, d3, d4] => { results := [.lit (.bool true)], args := [d1, d2, d3, d4] }
  | _ => none }
def fnProblemListDecodesBackRow : OpenClaim := { program := "qxb6001690a", sum := "08e6166c5ce7f05f570422f2c0bb60207acc54f330de13fb39b8825fb11a1fbe", func := "example.com/leaf/leaf/zzlaws_root_g1.FnProblemListDecodesBack", spec := "fnProblemListDecodesBack", plainKeys := false, apart := false }
def FnProblemListDecodesBackSaid : Prop := fnProblemListDecodesBackRow.holds Try.pinned (OpenSpec.ofChange fnProblemListDecodesBackSpec)

/-- ITS FALSE NEIGHBOUR: 'it returns false'. Refute it at one input. -/
def fnProblemListDecodesBackWrong : ChangeSpec := { name := "fnProblemListDecodesBack", fn := fun _ => fun
  | [d1, d2, d3, d4] => { results := [.lit (.bool false)], args := [d1, d2, d3, d4] }
  | _ => none }
def FnProblemListDecodesBackWrongFalsely : Prop := fnProblemListDecodesBackRow.holds Try.pinned (OpenSpec.ofChange fnProblemListDecodesBackWrong)

/-- 'zzlaws_root_g2.FnStanzaSetLinesRoundTripsThroughFieldLines': WHATEVER THE INPUT: true; the input reads as it did. -/
def fnStanzaSetLinesRoundTripsThroughFieldLinesSpec : ChangeSpec := { name := "fnStanzaSetLinesRoundTripsThroughFieldLines", fn := fun _ => fun
  | [d1, d2, d3, d4] => { results := [.lit (.bool true)], args := [d1, d2, d3, d4] }
  | _ => none }
def fnStanzaSetLinesRoundTripsThroughFieldLinesRow : OpenClaim := { program := "qxb6001690a", sum := "08e6166c5ce7f05f570422f2c0bb60207acc54f330de13fb39b8825fb11a1fbe", func := "example.com/leaf/leaf/zzlaws_root_g2.FnStanzaSetLinesRoundTripsThroughFieldLines", spec := "fnStanzaSetLinesRoundTripsThroughFieldLines", inPlace := ["internal/bytealg.CountString", "internal/bytealg.IndexByteString", "internal/bytealg.IndexString"], named := ["internal/bytealg.MaxLen"], plainKeys := false, apart := false }
def FnStanzaSetLinesRoundTripsThroughFieldLinesSaid : Prop := fnStanzaSetLinesRoundTripsThroughFieldLinesRow.holds Try.pinned (OpenSpec.ofChange fnStanzaSetLinesRoundTripsThroughFieldLinesSpec)

/-- ITS FALSE NEIGHBOUR: 'it returns false'. Refute it at one input. -/
def fnStanzaSetLinesRoundTripsThroughFieldLinesWrong : ChangeSpec := { name := "fnStanzaSetLinesRoundTripsThroughFieldLines", fn := fun _ => fun
  | [d1, d2, d3, d4] => { results := [.lit (.bool false)], args := [d1, d2, d3, d4] }
  | _ => none }
def FnStanzaSetLinesRoundTripsThroughFieldLinesWrongFalsely : Prop := fnStanzaSetLinesRoundTripsThroughFieldLinesRow.holds Try.pinned (OpenSpec.ofChange fnStanzaSetLinesRoundTripsThroughFieldLinesWrong)

/-- 'zzlaws_root_g2.FnStanzaDeleteAllKeepsEachRemainingFieldsLine': WHATEVER THE INPUT: true; the input reads as it did. -/
def fnStanzaDeleteAllKeepsEachRemainingFieldsLineSpec : ChangeSpec := { name := "fnStanzaDeleteAllKeepsEachRemainingFieldsLine", fn := fun _ => fun
  | [d1, d2, d3, d4, d5, d6] => { results := [.lit (.bool true)], args := [d1, d2, d3, d4, d5, d6] }
  | _ => none }
def fnStanzaDeleteAllKeepsEachRemainingFieldsLineRow : OpenClaim := { program := "qxb6001690a", sum := "08e6166c5ce7f05f570422f2c0bb60207acc54f330de13fb39b8825fb11a1fbe", func := "example.com/leaf/leaf/zzlaws_root_g2.FnStanzaDeleteAllKeepsEachRemainingFieldsLine", spec := "fnStanzaDeleteAllKeepsEachRemainingFieldsLine", inPlace := ["internal/bytealg.CountString", "internal/bytealg.IndexByteString", "internal/bytealg.IndexString"], named := ["internal/bytealg.MaxLen"], plainKeys := false, apart := false }
def FnStanzaDeleteAllKeepsEachRemainingFieldsLineSaid : Prop := fnStanzaDeleteAllKeepsEachRemainingFieldsLineRow.holds Try.pinned (OpenSpec.ofChange fnStanzaDeleteAllKeepsEachRemainingFieldsLineSpec)

/-- ITS FALSE NEIGHBOUR: 'it returns false'. Refute it at one input. -/
def fnStanzaDeleteAllKeepsEachRemainingFieldsLineWrong : ChangeSpec := { name := "fnStanzaDeleteAllKeepsEachRemainingFieldsLine", fn := fun _ => fun
  | [d1, d2, d3, d4, d5, d6] => { results := [.lit (.bool false)], args := [d1, d2, d3, d4, d5, d6] }
  | _ => none }
def FnStanzaDeleteAllKeepsEachRemainingFieldsLineWrongFalsely : Prop := fnStanzaDeleteAllKeepsEachRemainingFieldsLineRow.holds Try.pinned (OpenSpec.ofChange fnStanzaDeleteAllKeepsEachRemainingFieldsLineWrong)

end Rows
end Go.Proofs.Qxb6001690a
