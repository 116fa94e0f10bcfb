/-
  No cell of these rows narrows 'for every input' (looked for: loops, veiled, ifaces, maps, wideKeys, modest, calm, conditions, laid).
  DERIVED. THE GIVEN ROWS OF THIS SEAT. 5 by the template 'for every input the law returns true; each argument reads behind the call as it read before'; 0 by the template 'total and deterministic' (their statements: Qxb6600367aTotals.lean).
  GIVEN WITH THE SEED: the statements are not yours to turn. If you find one false, say at which input.
  Laid BY PROGRAM, IN A SANDBOX (cutbox-rows.mjs): the forced cells as the released guide's own fill.sh prints them over the translation 7dd2caf4d2e6643a… (all of the seat's roots in one cut). By AI agents, Wed Nov 11 2026. No macro, syntax, notation, axiom, sorry.
-/
import Derived.Test.Qxb6600367aChecked
import GoSem.Claim
import GoSem.ClaimJoined
import GoSem.ClaimMapViews
import Derived.JoinedTies
import Derived.KernelRfl
namespace Go.Proofs.Qxb6600367a
/- THE CELL 'sum', in the pinned program and in every row, IS THE sha256 OF THE DUMP (.gsa) THAT Qxb6600367aProg.lean LOADS. Nothing in Lean hashes anything: it is a label: what it is worth is what the hold of that sum in a sandbox is worth. -/
noncomputable def Try.pinned : Pinned := { name := "qxb6600367a", sum := "7dd2caf4d2e6643a468e98c66c7d661d56e1eb7e9fb01e899949575f9e03edc6", checked := Try.checked }
namespace Rows
def none {H : Type} : Left H := { results := [], args := [] }

/-- 'zzlaws_importer_b1.FnSuffixMatchesTrailingDigitsModel': WHATEVER THE INPUT: true; the input reads as it did. -/
def fnSuffixMatchesTrailingDigitsModelSpec : ChangeSpec := { name := "fnSuffixMatchesTrailingDigitsModel", fn := fun _ => fun
  | [d] => { results := [.lit (.bool true)], args := [d] }
  | _ => none }
def fnSuffixMatchesTrailingDigitsModelRow : OpenClaim := { program := "qxb6600367a", sum := "7dd2caf4d2e6643a468e98c66c7d661d56e1eb7e9fb01e899949575f9e03edc6", func := "example.com/ordo/ordo/zzlaws_importer_b1.FnSuffixMatchesTrailingDigitsModel", spec := "fnSuffixMatchesTrailingDigitsModel", apart := false }
def FnSuffixMatchesTrailingDigitsModelSaid : Prop := fnSuffixMatchesTrailingDigitsModelRow.holds Try.pinned (OpenSpec.ofChange fnSuffixMatchesTrailingDigitsModelSpec)

/-- ITS FALSE NEIGHBOUR: 'it returns false'. Refute it at one input. -/
def fnSuffixMatchesTrailingDigitsModelWrong : ChangeSpec := { name := "fnSuffixMatchesTrailingDigitsModel", fn := fun _ => fun
  | [d] => { results := [.lit (.bool false)], args := [d] }
  | _ => none }
def FnSuffixMatchesTrailingDigitsModelWrongFalsely : Prop := fnSuffixMatchesTrailingDigitsModelRow.holds Try.pinned (OpenSpec.ofChange fnSuffixMatchesTrailingDigitsModelWrong)

/-- 'zzlaws_importer_b1.FnSuffixReadsBackPaddedNumber': WHATEVER THE INPUT: true; the input reads as it did. -/
def fnSuffixReadsBackPaddedNumberSpec : ChangeSpec := { name := "fnSuffixReadsBackPaddedNumber", fn := fun _ => fun
  | [d1, d2] => { results := [.lit (.bool true)], args := [d1, d2] }
  | _ => none }
def fnSuffixReadsBackPaddedNumberRow : OpenClaim := { program := "qxb6600367a", sum := "7dd2caf4d2e6643a468e98c66c7d661d56e1eb7e9fb01e899949575f9e03edc6", func := "example.com/ordo/ordo/zzlaws_importer_b1.FnSuffixReadsBackPaddedNumber", spec := "fnSuffixReadsBackPaddedNumber", apart := false }
def FnSuffixReadsBackPaddedNumberSaid : Prop := fnSuffixReadsBackPaddedNumberRow.holds Try.pinned (OpenSpec.ofChange fnSuffixReadsBackPaddedNumberSpec)

/-- ITS FALSE NEIGHBOUR: 'it returns false'. Refute it at one input. -/
def fnSuffixReadsBackPaddedNumberWrong : ChangeSpec := { name := "fnSuffixReadsBackPaddedNumber", fn := fun _ => fun
  | [d1, d2] => { results := [.lit (.bool false)], args := [d1, d2] }
  | _ => none }
def FnSuffixReadsBackPaddedNumberWrongFalsely : Prop := fnSuffixReadsBackPaddedNumberRow.holds Try.pinned (OpenSpec.ofChange fnSuffixReadsBackPaddedNumberWrong)

/-- 'zzlaws_importer_b1.FnSuffixIgnoresWhatPrecedesLastTen': WHATEVER THE INPUT: true; the input reads as it did. -/
def fnSuffixIgnoresWhatPrecedesLastTenSpec : ChangeSpec := { name := "fnSuffixIgnoresWhatPrecedesLastTen", fn := fun _ => fun
  | [d1, d2] => { results := [.lit (.bool true)], args := [d1, d2] }
  | _ => none }
def fnSuffixIgnoresWhatPrecedesLastTenRow : OpenClaim := { program := "qxb6600367a", sum := "7dd2caf4d2e6643a468e98c66c7d661d56e1eb7e9fb01e899949575f9e03edc6", func := "example.com/ordo/ordo/zzlaws_importer_b1.FnSuffixIgnoresWhatPrecedesLastTen", spec := "fnSuffixIgnoresWhatPrecedesLastTen", apart := false }
def FnSuffixIgnoresWhatPrecedesLastTenSaid : Prop := fnSuffixIgnoresWhatPrecedesLastTenRow.holds Try.pinned (OpenSpec.ofChange fnSuffixIgnoresWhatPrecedesLastTenSpec)

/-- ITS FALSE NEIGHBOUR: 'it returns false'. Refute it at one input. -/
def fnSuffixIgnoresWhatPrecedesLastTenWrong : ChangeSpec := { name := "fnSuffixIgnoresWhatPrecedesLastTen", fn := fun _ => fun
  | [d1, d2] => { results := [.lit (.bool false)], args := [d1, d2] }
  | _ => none }
def FnSuffixIgnoresWhatPrecedesLastTenWrongFalsely : Prop := fnSuffixIgnoresWhatPrecedesLastTenRow.holds Try.pinned (OpenSpec.ofChange fnSuffixIgnoresWhatPrecedesLastTenWrong)

/-- 'zzlaws_importer_b1.FnSameEntriesIsEqualEncoding': WHATEVER THE INPUT: true; the input reads as it did. -/
def fnSameEntriesIsEqualEncodingSpec : ChangeSpec := { name := "fnSameEntriesIsEqualEncoding", fn := fun _ => fun
  | [d1, d2] => { results := [.lit (.bool true)], args := [d1, d2] }
  | _ => none }
def fnSameEntriesIsEqualEncodingRow : OpenClaim := { program := "qxb6600367a", sum := "7dd2caf4d2e6643a468e98c66c7d661d56e1eb7e9fb01e899949575f9e03edc6", func := "example.com/ordo/ordo/zzlaws_importer_b1.FnSameEntriesIsEqualEncoding", spec := "fnSameEntriesIsEqualEncoding", apart := false }
def FnSameEntriesIsEqualEncodingSaid : Prop := fnSameEntriesIsEqualEncodingRow.holds Try.pinned (OpenSpec.ofChange fnSameEntriesIsEqualEncodingSpec)

/-- ITS FALSE NEIGHBOUR: 'it returns false'. Refute it at one input. -/
def fnSameEntriesIsEqualEncodingWrong : ChangeSpec := { name := "fnSameEntriesIsEqualEncoding", fn := fun _ => fun
  | [d1, d2] => { results := [.lit (.bool false)], args := [d1, d2] }
  | _ => none }
def FnSameEntriesIsEqualEncodingWrongFalsely : Prop := fnSameEntriesIsEqualEncodingRow.holds Try.pinned (OpenSpec.ofChange fnSameEntriesIsEqualEncodingWrong)

/-- 'zzlaws_importer_b1.FnSameEntriesIsAnEquivalence': WHATEVER THE INPUT: true; the input reads as it did. -/
def fnSameEntriesIsAnEquivalenceSpec : ChangeSpec := { name := "fnSameEntriesIsAnEquivalence", fn := fun _ => fun
  | [d1, d2, d3] => { results := [.lit (.bool true)], args := [d1, d2, d3] }
  | _ => none }
def fnSameEntriesIsAnEquivalenceRow : OpenClaim := { program := "qxb6600367a", sum := "7dd2caf4d2e6643a468e98c66c7d661d56e1eb7e9fb01e899949575f9e03edc6", func := "example.com/ordo/ordo/zzlaws_importer_b1.FnSameEntriesIsAnEquivalence", spec := "fnSameEntriesIsAnEquivalence", apart := false }
def FnSameEntriesIsAnEquivalenceSaid : Prop := fnSameEntriesIsAnEquivalenceRow.holds Try.pinned (OpenSpec.ofChange fnSameEntriesIsAnEquivalenceSpec)

/-- ITS FALSE NEIGHBOUR: 'it returns false'. Refute it at one input. -/
def fnSameEntriesIsAnEquivalenceWrong : ChangeSpec := { name := "fnSameEntriesIsAnEquivalence", fn := fun _ => fun
  | [d1, d2, d3] => { results := [.lit (.bool false)], args := [d1, d2, d3] }
  | _ => none }
def FnSameEntriesIsAnEquivalenceWrongFalsely : Prop := fnSameEntriesIsAnEquivalenceRow.holds Try.pinned (OpenSpec.ofChange fnSameEntriesIsAnEquivalenceWrong)

end Rows
end Go.Proofs.Qxb6600367a
