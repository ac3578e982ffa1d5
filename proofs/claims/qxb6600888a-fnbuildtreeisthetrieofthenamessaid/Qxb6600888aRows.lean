/-
  No cell of these rows narrows 'for every input' (looked for: loops, veiled, ifaces, maps, wideKeys, modest, calm, conditions, laid).
  DERIVED. THE GIVEN ROWS OF THIS SEAT. 2 by the template 'for every input the law returns true; each argument reads behind the call as it read before'; 0 by the template 'total and deterministic' (their statements: Qxb6600888aTotals.lean).
  GIVEN WITH THE SEED: the statements are not yours to turn. If you find one false, say at which input.
  Laid BY PROGRAM, IN A SANDBOX (cutbox-rows.mjs): the forced cells as the released guide's own fill.sh prints them over the translation 5fdb9130fc56f51a… (all of the seat's roots in one cut). By AI agents, Wed Nov 11 2026. No macro, syntax, notation, axiom, sorry.
-/
import Derived.Test.Qxb6600888aChecked
import GoSem.Claim
import GoSem.ClaimJoined
import GoSem.ClaimMapViews
import Derived.JoinedTies
import Derived.KernelRfl
namespace Go.Proofs.Qxb6600888a
/- THE CELL 'sum', in the pinned program and in every row, IS THE sha256 OF THE DUMP (.gsa) THAT Qxb6600888aProg.lean LOADS. Nothing in Lean hashes anything: it is a label: what it is worth is what the hold of that sum in a sandbox is worth. -/
noncomputable def Try.pinned : Pinned := { name := "qxb6600888a", sum := "5fdb9130fc56f51a8f6d09d044869c30e187ccd5e351fd9cc84bace139a44962", checked := Try.checked }
namespace Rows
def none {H : Type} : Left H := { results := [], args := [] }

/-- 'zzlaws_root_b1.FnBuildTreeIsTheTrieOfTheNames': WHATEVER THE INPUT: true; the input reads as it did. -/
def fnBuildTreeIsTheTrieOfTheNamesSpec : ChangeSpec := { name := "fnBuildTreeIsTheTrieOfTheNames", fn := fun _ => fun
  | [d1, d2, d3] => { results := [.lit (.bool true)], args := [d1, d2, d3] }
  | _ => none }
def fnBuildTreeIsTheTrieOfTheNamesRow : OpenClaim := { program := "qxb6600888a", sum := "5fdb9130fc56f51a8f6d09d044869c30e187ccd5e351fd9cc84bace139a44962", func := "example.com/lens-on-policy/lens-on-policy/zzlaws_root_b1.FnBuildTreeIsTheTrieOfTheNames", spec := "fnBuildTreeIsTheTrieOfTheNames", inPlace := ["internal/bytealg.IndexByteString", "internal/bytealg.IndexString"], named := ["internal/bytealg.MaxLen"], apart := false }
def FnBuildTreeIsTheTrieOfTheNamesSaid : Prop := fnBuildTreeIsTheTrieOfTheNamesRow.holds Try.pinned (OpenSpec.ofChange fnBuildTreeIsTheTrieOfTheNamesSpec)

/-- ITS FALSE NEIGHBOUR: 'it returns false'. Refute it at one input. -/
def fnBuildTreeIsTheTrieOfTheNamesWrong : ChangeSpec := { name := "fnBuildTreeIsTheTrieOfTheNames", fn := fun _ => fun
  | [d1, d2, d3] => { results := [.lit (.bool false)], args := [d1, d2, d3] }
  | _ => none }
def FnBuildTreeIsTheTrieOfTheNamesWrongFalsely : Prop := fnBuildTreeIsTheTrieOfTheNamesRow.holds Try.pinned (OpenSpec.ofChange fnBuildTreeIsTheTrieOfTheNamesWrong)

/-- 'zzlaws_root_b1.FnBuildTreeIgnoresTheSkippedPrefix': WHATEVER THE INPUT: true; the input reads as it did. -/
def fnBuildTreeIgnoresTheSkippedPrefixSpec : ChangeSpec := { name := "fnBuildTreeIgnoresTheSkippedPrefix", fn := fun _ => fun
  | [d1, d2, d3, d4] => { results := [.lit (.bool true)], args := [d1, d2, d3, d4] }
  | _ => none }
def fnBuildTreeIgnoresTheSkippedPrefixRow : OpenClaim := { program := "qxb6600888a", sum := "5fdb9130fc56f51a8f6d09d044869c30e187ccd5e351fd9cc84bace139a44962", func := "example.com/lens-on-policy/lens-on-policy/zzlaws_root_b1.FnBuildTreeIgnoresTheSkippedPrefix", spec := "fnBuildTreeIgnoresTheSkippedPrefix", inPlace := ["internal/bytealg.IndexByteString", "internal/bytealg.IndexString"], named := ["internal/bytealg.MaxLen"], apart := false }
def FnBuildTreeIgnoresTheSkippedPrefixSaid : Prop := fnBuildTreeIgnoresTheSkippedPrefixRow.holds Try.pinned (OpenSpec.ofChange fnBuildTreeIgnoresTheSkippedPrefixSpec)

/-- ITS FALSE NEIGHBOUR: 'it returns false'. Refute it at one input. -/
def fnBuildTreeIgnoresTheSkippedPrefixWrong : ChangeSpec := { name := "fnBuildTreeIgnoresTheSkippedPrefix", fn := fun _ => fun
  | [d1, d2, d3, d4] => { results := [.lit (.bool false)], args := [d1, d2, d3, d4] }
  | _ => none }
def FnBuildTreeIgnoresTheSkippedPrefixWrongFalsely : Prop := fnBuildTreeIgnoresTheSkippedPrefixRow.holds Try.pinned (OpenSpec.ofChange fnBuildTreeIgnoresTheSkippedPrefixWrong)

end Rows
end Go.Proofs.Qxb6600888a
