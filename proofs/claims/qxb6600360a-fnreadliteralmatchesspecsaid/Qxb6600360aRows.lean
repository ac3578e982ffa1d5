/-
  No cell of these rows narrows 'for every input' (looked for: loops, veiled, ifaces, maps, wideKeys, modest, calm, conditions, laid).
  DERIVED. THE GIVEN ROWS OF THIS SEAT. 5 by the template 'for every input the law returns true; each argument reads behind the call as it read before'; 0 by the template 'total and deterministic' (their statements: Qxb6600360aTotals.lean).
  GIVEN WITH THE SEED: the statements are not yours to turn. If you find one false, say at which input.
  Laid BY PROGRAM, IN A SANDBOX (cutbox-rows.mjs): the forced cells as the released guide's own fill.sh prints them over the translation 8f70ce53fe1bcdb1… (all of the seat's roots in one cut). By AI agents, Wed Nov 11 2026. No macro, syntax, notation, axiom, sorry.
-/
import Derived.Test.Qxb6600360aChecked
import GoSem.Claim
import GoSem.ClaimJoined
import GoSem.ClaimMapViews
import Derived.JoinedTies
import Derived.KernelRfl
namespace Go.Proofs.Qxb6600360a
/- THE CELL 'sum', in the pinned program and in every row, IS THE sha256 OF THE DUMP (.gsa) THAT Qxb6600360aProg.lean LOADS. Nothing in Lean hashes anything: it is a label: what it is worth is what the hold of that sum in a sandbox is worth. -/
noncomputable def Try.pinned : Pinned := { name := "qxb6600360a", sum := "8f70ce53fe1bcdb193e18e92f4f38c0c0f6b631d4c8cf30d72f08fe960c6ce51", checked := Try.checked }
namespace Rows
def none {H : Type} : Left H := { results := [], args := [] }

/-- 'zzlaws_models_b1.FnReadLiteralMatchesSpec': WHATEVER THE INPUT: true; the input reads as it did. -/
def fnReadLiteralMatchesSpecSpec : ChangeSpec := { name := "fnReadLiteralMatchesSpec", fn := fun _ => fun
  | [d1, d2] => { results := [.lit (.bool true)], args := [d1, d2] }
  | _ => none }
def fnReadLiteralMatchesSpecRow : OpenClaim := { program := "qxb6600360a", sum := "8f70ce53fe1bcdb193e18e92f4f38c0c0f6b631d4c8cf30d72f08fe960c6ce51", func := "example.com/planloom/planloom/zzlaws_models_b1.FnReadLiteralMatchesSpec", spec := "fnReadLiteralMatchesSpec", inPlace := ["internal/bytealg.IndexByteString", "internal/bytealg.IndexString"], named := ["internal/bytealg.MaxLen"], apart := false }
def FnReadLiteralMatchesSpecSaid : Prop := fnReadLiteralMatchesSpecRow.holds Try.pinned (OpenSpec.ofChange fnReadLiteralMatchesSpecSpec)

/-- ITS FALSE NEIGHBOUR: 'it returns false'. Refute it at one input. -/
def fnReadLiteralMatchesSpecWrong : ChangeSpec := { name := "fnReadLiteralMatchesSpec", fn := fun _ => fun
  | [d1, d2] => { results := [.lit (.bool false)], args := [d1, d2] }
  | _ => none }
def FnReadLiteralMatchesSpecWrongFalsely : Prop := fnReadLiteralMatchesSpecRow.holds Try.pinned (OpenSpec.ofChange fnReadLiteralMatchesSpecWrong)

/-- 'zzlaws_models_b1.FnReadLiteralPiecesRebuildText': WHATEVER THE INPUT: true; the input reads as it did. -/
def fnReadLiteralPiecesRebuildTextSpec : ChangeSpec := { name := "fnReadLiteralPiecesRebuildText", fn := fun _ => fun
  | [d] => { results := [.lit (.bool true)], args := [d] }
  | _ => none }
def fnReadLiteralPiecesRebuildTextRow : OpenClaim := { program := "qxb6600360a", sum := "8f70ce53fe1bcdb193e18e92f4f38c0c0f6b631d4c8cf30d72f08fe960c6ce51", func := "example.com/planloom/planloom/zzlaws_models_b1.FnReadLiteralPiecesRebuildText", spec := "fnReadLiteralPiecesRebuildText", inPlace := ["internal/bytealg.IndexByteString", "internal/bytealg.IndexString"], named := ["internal/bytealg.MaxLen"], apart := false }
def FnReadLiteralPiecesRebuildTextSaid : Prop := fnReadLiteralPiecesRebuildTextRow.holds Try.pinned (OpenSpec.ofChange fnReadLiteralPiecesRebuildTextSpec)

/-- ITS FALSE NEIGHBOUR: 'it returns false'. Refute it at one input. -/
def fnReadLiteralPiecesRebuildTextWrong : ChangeSpec := { name := "fnReadLiteralPiecesRebuildText", fn := fun _ => fun
  | [d] => { results := [.lit (.bool false)], args := [d] }
  | _ => none }
def FnReadLiteralPiecesRebuildTextWrongFalsely : Prop := fnReadLiteralPiecesRebuildTextRow.holds Try.pinned (OpenSpec.ofChange fnReadLiteralPiecesRebuildTextWrong)

/-- 'zzlaws_models_b1.FnByteAtMatchesUnescapeModel': WHATEVER THE INPUT: true; the input reads as it did. -/
def fnByteAtMatchesUnescapeModelSpec : ChangeSpec := { name := "fnByteAtMatchesUnescapeModel", fn := fun _ => fun
  | [d1, d2, d3] => { results := [.lit (.bool true)], args := [d1, d2, d3] }
  | _ => none }
def fnByteAtMatchesUnescapeModelRow : OpenClaim := { program := "qxb6600360a", sum := "8f70ce53fe1bcdb193e18e92f4f38c0c0f6b631d4c8cf30d72f08fe960c6ce51", func := "example.com/planloom/planloom/zzlaws_models_b1.FnByteAtMatchesUnescapeModel", spec := "fnByteAtMatchesUnescapeModel", apart := false }
def FnByteAtMatchesUnescapeModelSaid : Prop := fnByteAtMatchesUnescapeModelRow.holds Try.pinned (OpenSpec.ofChange fnByteAtMatchesUnescapeModelSpec)

/-- ITS FALSE NEIGHBOUR: 'it returns false'. Refute it at one input. -/
def fnByteAtMatchesUnescapeModelWrong : ChangeSpec := { name := "fnByteAtMatchesUnescapeModel", fn := fun _ => fun
  | [d1, d2, d3] => { results := [.lit (.bool false)], args := [d1, d2, d3] }
  | _ => none }
def FnByteAtMatchesUnescapeModelWrongFalsely : Prop := fnByteAtMatchesUnescapeModelRow.holds Try.pinned (OpenSpec.ofChange fnByteAtMatchesUnescapeModelWrong)

/-- 'zzlaws_models_b1.FnByteAtUndoesEscaping': WHATEVER THE INPUT: true; the input reads as it did. -/
def fnByteAtUndoesEscapingSpec : ChangeSpec := { name := "fnByteAtUndoesEscaping", fn := fun _ => fun
  | [d1, d2, d3] => { results := [.lit (.bool true)], args := [d1, d2, d3] }
  | _ => none }
def fnByteAtUndoesEscapingRow : OpenClaim := { program := "qxb6600360a", sum := "8f70ce53fe1bcdb193e18e92f4f38c0c0f6b631d4c8cf30d72f08fe960c6ce51", func := "example.com/planloom/planloom/zzlaws_models_b1.FnByteAtUndoesEscaping", spec := "fnByteAtUndoesEscaping", apart := false }
def FnByteAtUndoesEscapingSaid : Prop := fnByteAtUndoesEscapingRow.holds Try.pinned (OpenSpec.ofChange fnByteAtUndoesEscapingSpec)

/-- ITS FALSE NEIGHBOUR: 'it returns false'. Refute it at one input. -/
def fnByteAtUndoesEscapingWrong : ChangeSpec := { name := "fnByteAtUndoesEscaping", fn := fun _ => fun
  | [d1, d2, d3] => { results := [.lit (.bool false)], args := [d1, d2, d3] }
  | _ => none }
def FnByteAtUndoesEscapingWrongFalsely : Prop := fnByteAtUndoesEscapingRow.holds Try.pinned (OpenSpec.ofChange fnByteAtUndoesEscapingWrong)

/-- 'zzlaws_models_b1.FnByteAtAnswersHangOnlyOnK': WHATEVER THE INPUT: true; the input reads as it did. -/
def fnByteAtAnswersHangOnlyOnKSpec : ChangeSpec := { name := "fnByteAtAnswersHangOnlyOnK", fn := fun _ => fun
  | [d1, d2, d3] => { results := [.lit (.bool true)], args := [d1, d2, d3] }
  | _ => none }
def fnByteAtAnswersHangOnlyOnKRow : OpenClaim := { program := "qxb6600360a", sum := "8f70ce53fe1bcdb193e18e92f4f38c0c0f6b631d4c8cf30d72f08fe960c6ce51", func := "example.com/planloom/planloom/zzlaws_models_b1.FnByteAtAnswersHangOnlyOnK", spec := "fnByteAtAnswersHangOnlyOnK", apart := false }
def FnByteAtAnswersHangOnlyOnKSaid : Prop := fnByteAtAnswersHangOnlyOnKRow.holds Try.pinned (OpenSpec.ofChange fnByteAtAnswersHangOnlyOnKSpec)

/-- ITS FALSE NEIGHBOUR: 'it returns false'. Refute it at one input. -/
def fnByteAtAnswersHangOnlyOnKWrong : ChangeSpec := { name := "fnByteAtAnswersHangOnlyOnK", fn := fun _ => fun
  | [d1, d2, d3] => { results := [.lit (.bool false)], args := [d1, d2, d3] }
  | _ => none }
def FnByteAtAnswersHangOnlyOnKWrongFalsely : Prop := fnByteAtAnswersHangOnlyOnKRow.holds Try.pinned (OpenSpec.ofChange fnByteAtAnswersHangOnlyOnKWrong)

end Rows
end Go.Proofs.Qxb6600360a
