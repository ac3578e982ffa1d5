/-
  No cell of these rows narrows 'for every input' (looked for: loops, veiled, ifaces, maps, wideKeys, modest, calm, conditions, laid).
  DERIVED. THE GIVEN ROWS OF THIS SEAT. 7 by the template 'for every input the law returns true; each argument reads behind the call as it read before'; 0 by the template 'total and deterministic' (their statements: Qxb6601068aTotals.lean).
  GIVEN WITH THE SEED: the statements are not yours to turn. If you find one false, say at which input.
  Laid BY PROGRAM, IN A SANDBOX (cutbox-rows.mjs): the forced cells as the released guide's own fill.sh prints them over the translation 99af63ec5899834f… (all of the seat's roots in one cut). By AI agents, Wed Nov 11 2026. No macro, syntax, notation, axiom, sorry.
-/
import Derived.Test.Qxb6601068aChecked
import GoSem.Claim
import GoSem.ClaimJoined
import GoSem.ClaimMapViews
import Derived.JoinedTies
import Derived.KernelRfl
namespace Go.Proofs.Qxb6601068a
/- THE CELL 'sum', in the pinned program and in every row, IS THE sha256 OF THE DUMP (.gsa) THAT Qxb6601068aProg.lean LOADS. Nothing in Lean hashes anything: it is a label: what it is worth is what the hold of that sum in a sandbox is worth. -/
noncomputable def Try.pinned : Pinned := { name := "qxb6601068a", sum := "99af63ec5899834fd429ad5dd670140786701d6b1efd1cb6f2fd7a9462350dc7", checked := Try.checked }
namespace Rows
def none {H : Type} : Left H := { results := [], args := [] }

/-- 'zzlaws_root_b1.FnPlainKeyConcat': WHATEVER THE INPUT: true; the input reads as it did. -/
def fnPlainKeyConcatSpec : ChangeSpec := { name := "fnPlainKeyConcat", fn := fun _ => fun
  | [d1, d2] => { results := [.lit (.bool true)], args := [d1, d2] }
  | _ => none }
def fnPlainKeyConcatRow : OpenClaim := { program := "qxb6601068a", sum := "99af63ec5899834fd429ad5dd670140786701d6b1efd1cb6f2fd7a9462350dc7", func := "example.com/coterie/coterie/zzlaws_root_b1.FnPlainKeyConcat", spec := "fnPlainKeyConcat", apart := false }
def FnPlainKeyConcatSaid : Prop := fnPlainKeyConcatRow.holds Try.pinned (OpenSpec.ofChange fnPlainKeyConcatSpec)

/-- ITS FALSE NEIGHBOUR: 'it returns false'. Refute it at one input. -/
def fnPlainKeyConcatWrong : ChangeSpec := { name := "fnPlainKeyConcat", fn := fun _ => fun
  | [d1, d2] => { results := [.lit (.bool false)], args := [d1, d2] }
  | _ => none }
def FnPlainKeyConcatWrongFalsely : Prop := fnPlainKeyConcatRow.holds Try.pinned (OpenSpec.ofChange fnPlainKeyConcatWrong)

/-- 'zzlaws_root_b1.FnParseDigitsExact': WHATEVER THE INPUT: true; the input reads as it did. -/
def fnParseDigitsExactSpec : ChangeSpec := { name := "fnParseDigitsExact", fn := fun _ => fun
  | [d] => { results := [.lit (.bool true)], args := [d] }
  | _ => none }
def fnParseDigitsExactRow : OpenClaim := { program := "qxb6601068a", sum := "99af63ec5899834fd429ad5dd670140786701d6b1efd1cb6f2fd7a9462350dc7", func := "example.com/coterie/coterie/zzlaws_root_b1.FnParseDigitsExact", spec := "fnParseDigitsExact", apart := false }
def FnParseDigitsExactSaid : Prop := fnParseDigitsExactRow.holds Try.pinned (OpenSpec.ofChange fnParseDigitsExactSpec)

/-- ITS FALSE NEIGHBOUR: 'it returns false'. Refute it at one input. -/
def fnParseDigitsExactWrong : ChangeSpec := { name := "fnParseDigitsExact", fn := fun _ => fun
  | [d] => { results := [.lit (.bool false)], args := [d] }
  | _ => none }
def FnParseDigitsExactWrongFalsely : Prop := fnParseDigitsExactRow.holds Try.pinned (OpenSpec.ofChange fnParseDigitsExactWrong)

/-- 'zzlaws_root_b1.FnParseDigitsRoundTrip': WHATEVER THE INPUT: true; the input reads as it did. -/
def fnParseDigitsRoundTripSpec : ChangeSpec := { name := "fnParseDigitsRoundTrip", fn := fun _ => fun
  | [d1, d2] => { results := [.lit (.bool true)], args := [d1, d2] }
  | _ => none }
def fnParseDigitsRoundTripRow : OpenClaim := { program := "qxb6601068a", sum := "99af63ec5899834fd429ad5dd670140786701d6b1efd1cb6f2fd7a9462350dc7", func := "example.com/coterie/coterie/zzlaws_root_b1.FnParseDigitsRoundTrip", spec := "fnParseDigitsRoundTrip", apart := false }
def FnParseDigitsRoundTripSaid : Prop := fnParseDigitsRoundTripRow.holds Try.pinned (OpenSpec.ofChange fnParseDigitsRoundTripSpec)

/-- ITS FALSE NEIGHBOUR: 'it returns false'. Refute it at one input. -/
def fnParseDigitsRoundTripWrong : ChangeSpec := { name := "fnParseDigitsRoundTrip", fn := fun _ => fun
  | [d1, d2] => { results := [.lit (.bool false)], args := [d1, d2] }
  | _ => none }
def FnParseDigitsRoundTripWrongFalsely : Prop := fnParseDigitsRoundTripRow.holds Try.pinned (OpenSpec.ofChange fnParseDigitsRoundTripWrong)

/-- 'zzlaws_root_b1.FnParseDigitsPrefixSuffixBounded': WHATEVER THE INPUT: true; the input reads as it did. -/
def fnParseDigitsPrefixSuffixBoundedSpec : ChangeSpec := { name := "fnParseDigitsPrefixSuffixBounded", fn := fun _ => fun
  | [d1, d2] => { results := [.lit (.bool true)], args := [d1, d2] }
  | _ => none }
def fnParseDigitsPrefixSuffixBoundedRow : OpenClaim := { program := "qxb6601068a", sum := "99af63ec5899834fd429ad5dd670140786701d6b1efd1cb6f2fd7a9462350dc7", func := "example.com/coterie/coterie/zzlaws_root_b1.FnParseDigitsPrefixSuffixBounded", spec := "fnParseDigitsPrefixSuffixBounded", apart := false }
def FnParseDigitsPrefixSuffixBoundedSaid : Prop := fnParseDigitsPrefixSuffixBoundedRow.holds Try.pinned (OpenSpec.ofChange fnParseDigitsPrefixSuffixBoundedSpec)

/-- ITS FALSE NEIGHBOUR: 'it returns false'. Refute it at one input. -/
def fnParseDigitsPrefixSuffixBoundedWrong : ChangeSpec := { name := "fnParseDigitsPrefixSuffixBounded", fn := fun _ => fun
  | [d1, d2] => { results := [.lit (.bool false)], args := [d1, d2] }
  | _ => none }
def FnParseDigitsPrefixSuffixBoundedWrongFalsely : Prop := fnParseDigitsPrefixSuffixBoundedRow.holds Try.pinned (OpenSpec.ofChange fnParseDigitsPrefixSuffixBoundedWrong)

/-- 'zzlaws_root_b1.FnMayReadBackReplacedExact': WHATEVER THE INPUT: true; the input reads as it did. -/
def fnMayReadBackReplacedExactSpec : ChangeSpec := { name := "fnMayReadBackReplacedExact", fn := fun _ => fun
  | [d] => { results := [.lit (.bool true)], args := [d] }
  | _ => none }
def fnMayReadBackReplacedExactRow : OpenClaim := { program := "qxb6601068a", sum := "99af63ec5899834fd429ad5dd670140786701d6b1efd1cb6f2fd7a9462350dc7", func := "example.com/coterie/coterie/zzlaws_root_b1.FnMayReadBackReplacedExact", spec := "fnMayReadBackReplacedExact", inPlace := ["internal/bytealg.IndexByte", "internal/bytealg.Index"], named := ["internal/bytealg.MaxLen"], apart := false }
def FnMayReadBackReplacedExactSaid : Prop := fnMayReadBackReplacedExactRow.holds Try.pinned (OpenSpec.ofChange fnMayReadBackReplacedExactSpec)

/-- ITS FALSE NEIGHBOUR: 'it returns false'. Refute it at one input. -/
def fnMayReadBackReplacedExactWrong : ChangeSpec := { name := "fnMayReadBackReplacedExact", fn := fun _ => fun
  | [d] => { results := [.lit (.bool false)], args := [d] }
  | _ => none }
def FnMayReadBackReplacedExactWrongFalsely : Prop := fnMayReadBackReplacedExactRow.holds Try.pinned (OpenSpec.ofChange fnMayReadBackReplacedExactWrong)

/-- 'zzlaws_root_b1.FnMayReadBackKeptByWrapping': WHATEVER THE INPUT: true; the input reads as it did. -/
def fnMayReadBackKeptByWrappingSpec : ChangeSpec := { name := "fnMayReadBackKeptByWrapping", fn := fun _ => fun
  | [d1, d2, d3] => { results := [.lit (.bool true)], args := [d1, d2, d3] }
  | _ => none }
def fnMayReadBackKeptByWrappingRow : OpenClaim := { program := "qxb6601068a", sum := "99af63ec5899834fd429ad5dd670140786701d6b1efd1cb6f2fd7a9462350dc7", func := "example.com/coterie/coterie/zzlaws_root_b1.FnMayReadBackKeptByWrapping", spec := "fnMayReadBackKeptByWrapping", inPlace := ["internal/bytealg.IndexByte", "internal/bytealg.Index"], named := ["internal/bytealg.MaxLen"], apart := false }
def FnMayReadBackKeptByWrappingSaid : Prop := fnMayReadBackKeptByWrappingRow.holds Try.pinned (OpenSpec.ofChange fnMayReadBackKeptByWrappingSpec)

/-- ITS FALSE NEIGHBOUR: 'it returns false'. Refute it at one input. -/
def fnMayReadBackKeptByWrappingWrong : ChangeSpec := { name := "fnMayReadBackKeptByWrapping", fn := fun _ => fun
  | [d1, d2, d3] => { results := [.lit (.bool false)], args := [d1, d2, d3] }
  | _ => none }
def FnMayReadBackKeptByWrappingWrongFalsely : Prop := fnMayReadBackKeptByWrappingRow.holds Try.pinned (OpenSpec.ofChange fnMayReadBackKeptByWrappingWrong)

/-- 'zzlaws_root_b1.FnMayReadBackSingleEscape': WHATEVER THE INPUT: true; the input reads as it did. -/
def fnMayReadBackSingleEscapeSpec : ChangeSpec := { name := "fnMayReadBackSingleEscape", fn := fun _ => fun
  | [d1, d2] => { results := [.lit (.bool true)], args := [d1, d2] }
  | _ => none }
def fnMayReadBackSingleEscapeRow : OpenClaim := { program := "qxb6601068a", sum := "99af63ec5899834fd429ad5dd670140786701d6b1efd1cb6f2fd7a9462350dc7", func := "example.com/coterie/coterie/zzlaws_root_b1.FnMayReadBackSingleEscape", spec := "fnMayReadBackSingleEscape", inPlace := ["internal/bytealg.IndexByte", "internal/bytealg.Index"], named := ["internal/bytealg.MaxLen"], apart := false }
def FnMayReadBackSingleEscapeSaid : Prop := fnMayReadBackSingleEscapeRow.holds Try.pinned (OpenSpec.ofChange fnMayReadBackSingleEscapeSpec)

/-- ITS FALSE NEIGHBOUR: 'it returns false'. Refute it at one input. -/
def fnMayReadBackSingleEscapeWrong : ChangeSpec := { name := "fnMayReadBackSingleEscape", fn := fun _ => fun
  | [d1, d2] => { results := [.lit (.bool false)], args := [d1, d2] }
  | _ => none }
def FnMayReadBackSingleEscapeWrongFalsely : Prop := fnMayReadBackSingleEscapeRow.holds Try.pinned (OpenSpec.ofChange fnMayReadBackSingleEscapeWrong)

end Rows
end Go.Proofs.Qxb6601068a
