/-
  No cell of these rows narrows 'for every input' (looked for: loops, veiled, ifaces, maps, wideKeys, modest, calm, conditions, laid).
  DERIVED. THE GIVEN ROWS OF THIS SEAT. 6 by the template 'for every input the law returns true; each argument reads behind the call as it read before'; 0 by the template 'total and deterministic' (their statements: Qxb6600664aTotals.lean).
  GIVEN WITH THE SEED: the statements are not yours to turn. If you find one false, say at which input.
  Laid BY PROGRAM, IN A SANDBOX (cutbox-rows.mjs): the forced cells as the released guide's own fill.sh prints them over the translation 80acea91f896e955… (all of the seat's roots in one cut). By AI agents, Wed Nov 11 2026. No macro, syntax, notation, axiom, sorry.
-/
import Derived.Test.Qxb6600664aChecked
import GoSem.Claim
import GoSem.ClaimJoined
import GoSem.ClaimMapViews
import Derived.JoinedTies
import Derived.KernelRfl
namespace Go.Proofs.Qxb6600664a
/- THE CELL 'sum', in the pinned program and in every row, IS THE sha256 OF THE DUMP (.gsa) THAT Qxb6600664aProg.lean LOADS. Nothing in Lean hashes anything: it is a label: what it is worth is what the hold of that sum in a sandbox is worth. -/
noncomputable def Try.pinned : Pinned := { name := "qxb6600664a", sum := "80acea91f896e95564fbed1d585c5512a2c9627b293c9fe82704c62d74853992", checked := Try.checked }
namespace Rows
def none {H : Type} : Left H := { results := [], args := [] }

/-- 'zzlaws_cpustat_b1.FnUnionMatchesFirstOccurrenceModel': WHATEVER THE INPUT: true; the input reads as it did. -/
def fnUnionMatchesFirstOccurrenceModelSpec : ChangeSpec := { name := "fnUnionMatchesFirstOccurrenceModel", fn := fun _ => fun
  | [d1, d2] => { results := [.lit (.bool true)], args := [d1, d2] }
  | _ => none }
def fnUnionMatchesFirstOccurrenceModelRow : OpenClaim := { program := "qxb6600664a", sum := "80acea91f896e95564fbed1d585c5512a2c9627b293c9fe82704c62d74853992", func := "example.com/keelson/keelson/zzlaws_cpustat_b1.FnUnionMatchesFirstOccurrenceModel", spec := "fnUnionMatchesFirstOccurrenceModel", apart := false }
def FnUnionMatchesFirstOccurrenceModelSaid : Prop := fnUnionMatchesFirstOccurrenceModelRow.holds Try.pinned (OpenSpec.ofChange fnUnionMatchesFirstOccurrenceModelSpec)

/-- ITS FALSE NEIGHBOUR: 'it returns false'. Refute it at one input. -/
def fnUnionMatchesFirstOccurrenceModelWrong : ChangeSpec := { name := "fnUnionMatchesFirstOccurrenceModel", fn := fun _ => fun
  | [d1, d2] => { results := [.lit (.bool false)], args := [d1, d2] }
  | _ => none }
def FnUnionMatchesFirstOccurrenceModelWrongFalsely : Prop := fnUnionMatchesFirstOccurrenceModelRow.holds Try.pinned (OpenSpec.ofChange fnUnionMatchesFirstOccurrenceModelWrong)

/-- 'zzlaws_cpustat_b1.FnUnionIsAssociative': WHATEVER THE INPUT: true; the input reads as it did. -/
def fnUnionIsAssociativeSpec : ChangeSpec := { name := "fnUnionIsAssociative", fn := fun _ => fun
  | [d1, d2, d3] => { results := [.lit (.bool true)], args := [d1, d2, d3] }
  | _ => none }
def fnUnionIsAssociativeRow : OpenClaim := { program := "qxb6600664a", sum := "80acea91f896e95564fbed1d585c5512a2c9627b293c9fe82704c62d74853992", func := "example.com/keelson/keelson/zzlaws_cpustat_b1.FnUnionIsAssociative", spec := "fnUnionIsAssociative", apart := false }
def FnUnionIsAssociativeSaid : Prop := fnUnionIsAssociativeRow.holds Try.pinned (OpenSpec.ofChange fnUnionIsAssociativeSpec)

/-- ITS FALSE NEIGHBOUR: 'it returns false'. Refute it at one input. -/
def fnUnionIsAssociativeWrong : ChangeSpec := { name := "fnUnionIsAssociative", fn := fun _ => fun
  | [d1, d2, d3] => { results := [.lit (.bool false)], args := [d1, d2, d3] }
  | _ => none }
def FnUnionIsAssociativeWrongFalsely : Prop := fnUnionIsAssociativeRow.holds Try.pinned (OpenSpec.ofChange fnUnionIsAssociativeWrong)

/-- 'zzlaws_cpustat_b1.FnUnionAbsorbsWhatItHolds': WHATEVER THE INPUT: true; the input reads as it did. -/
def fnUnionAbsorbsWhatItHoldsSpec : ChangeSpec := { name := "fnUnionAbsorbsWhatItHolds", fn := fun _ => fun
  | [d1, d2] => { results := [.lit (.bool true)], args := [d1, d2] }
  | _ => none }
def fnUnionAbsorbsWhatItHoldsRow : OpenClaim := { program := "qxb6600664a", sum := "80acea91f896e95564fbed1d585c5512a2c9627b293c9fe82704c62d74853992", func := "example.com/keelson/keelson/zzlaws_cpustat_b1.FnUnionAbsorbsWhatItHolds", spec := "fnUnionAbsorbsWhatItHolds", apart := false }
def FnUnionAbsorbsWhatItHoldsSaid : Prop := fnUnionAbsorbsWhatItHoldsRow.holds Try.pinned (OpenSpec.ofChange fnUnionAbsorbsWhatItHoldsSpec)

/-- ITS FALSE NEIGHBOUR: 'it returns false'. Refute it at one input. -/
def fnUnionAbsorbsWhatItHoldsWrong : ChangeSpec := { name := "fnUnionAbsorbsWhatItHolds", fn := fun _ => fun
  | [d1, d2] => { results := [.lit (.bool false)], args := [d1, d2] }
  | _ => none }
def FnUnionAbsorbsWhatItHoldsWrongFalsely : Prop := fnUnionAbsorbsWhatItHoldsRow.holds Try.pinned (OpenSpec.ofChange fnUnionAbsorbsWhatItHoldsWrong)

/-- 'zzlaws_cpustat_b1.FnWaitedInGroupMatchesSumModel': WHATEVER THE INPUT: true; the input reads as it did. -/
def fnWaitedInGroupMatchesSumModelSpec : ChangeSpec := { name := "fnWaitedInGroupMatchesSumModel", fn := fun _ => fun
  | [d1, d2, d3, d4, d5, d6] => { results := [.lit (.bool true)], args := [d1, d2, d3, d4, d5, d6] }
  | _ => none }
def fnWaitedInGroupMatchesSumModelRow : OpenClaim := { program := "qxb6600664a", sum := "80acea91f896e95564fbed1d585c5512a2c9627b293c9fe82704c62d74853992", func := "example.com/keelson/keelson/zzlaws_cpustat_b1.FnWaitedInGroupMatchesSumModel", spec := "fnWaitedInGroupMatchesSumModel", apart := false }
def FnWaitedInGroupMatchesSumModelSaid : Prop := fnWaitedInGroupMatchesSumModelRow.holds Try.pinned (OpenSpec.ofChange fnWaitedInGroupMatchesSumModelSpec)

/-- ITS FALSE NEIGHBOUR: 'it returns false'. Refute it at one input. -/
def fnWaitedInGroupMatchesSumModelWrong : ChangeSpec := { name := "fnWaitedInGroupMatchesSumModel", fn := fun _ => fun
  | [d1, d2, d3, d4, d5, d6] => { results := [.lit (.bool false)], args := [d1, d2, d3, d4, d5, d6] }
  | _ => none }
def FnWaitedInGroupMatchesSumModelWrongFalsely : Prop := fnWaitedInGroupMatchesSumModelRow.holds Try.pinned (OpenSpec.ofChange fnWaitedInGroupMatchesSumModelWrong)

/-- 'zzlaws_cpustat_b1.FnWaitedInGroupNeverExceedsRise': WHATEVER THE INPUT: true; the input reads as it did. -/
def fnWaitedInGroupNeverExceedsRiseSpec : ChangeSpec := { name := "fnWaitedInGroupNeverExceedsRise", fn := fun _ => fun
  | [d1, d2, d3, d4, d5, d6] => { results := [.lit (.bool true)], args := [d1, d2, d3, d4, d5, d6] }
  | _ => none }
def fnWaitedInGroupNeverExceedsRiseRow : OpenClaim := { program := "qxb6600664a", sum := "80acea91f896e95564fbed1d585c5512a2c9627b293c9fe82704c62d74853992", func := "example.com/keelson/keelson/zzlaws_cpustat_b1.FnWaitedInGroupNeverExceedsRise", spec := "fnWaitedInGroupNeverExceedsRise", apart := false }
def FnWaitedInGroupNeverExceedsRiseSaid : Prop := fnWaitedInGroupNeverExceedsRiseRow.holds Try.pinned (OpenSpec.ofChange fnWaitedInGroupNeverExceedsRiseSpec)

/-- ITS FALSE NEIGHBOUR: 'it returns false'. Refute it at one input. -/
def fnWaitedInGroupNeverExceedsRiseWrong : ChangeSpec := { name := "fnWaitedInGroupNeverExceedsRise", fn := fun _ => fun
  | [d1, d2, d3, d4, d5, d6] => { results := [.lit (.bool false)], args := [d1, d2, d3, d4, d5, d6] }
  | _ => none }
def FnWaitedInGroupNeverExceedsRiseWrongFalsely : Prop := fnWaitedInGroupNeverExceedsRiseRow.holds Try.pinned (OpenSpec.ofChange fnWaitedInGroupNeverExceedsRiseWrong)

/-- 'zzlaws_cpustat_b1.FnWaitedInGroupIgnoresOrderOfNames': WHATEVER THE INPUT: true; the input reads as it did. -/
def fnWaitedInGroupIgnoresOrderOfNamesSpec : ChangeSpec := { name := "fnWaitedInGroupIgnoresOrderOfNames", fn := fun _ => fun
  | [d1, d2, d3, d4, d5, d6] => { results := [.lit (.bool true)], args := [d1, d2, d3, d4, d5, d6] }
  | _ => none }
def fnWaitedInGroupIgnoresOrderOfNamesRow : OpenClaim := { program := "qxb6600664a", sum := "80acea91f896e95564fbed1d585c5512a2c9627b293c9fe82704c62d74853992", func := "example.com/keelson/keelson/zzlaws_cpustat_b1.FnWaitedInGroupIgnoresOrderOfNames", spec := "fnWaitedInGroupIgnoresOrderOfNames", apart := false }
def FnWaitedInGroupIgnoresOrderOfNamesSaid : Prop := fnWaitedInGroupIgnoresOrderOfNamesRow.holds Try.pinned (OpenSpec.ofChange fnWaitedInGroupIgnoresOrderOfNamesSpec)

/-- ITS FALSE NEIGHBOUR: 'it returns false'. Refute it at one input. -/
def fnWaitedInGroupIgnoresOrderOfNamesWrong : ChangeSpec := { name := "fnWaitedInGroupIgnoresOrderOfNames", fn := fun _ => fun
  | [d1, d2, d3, d4, d5, d6] => { results := [.lit (.bool false)], args := [d1, d2, d3, d4, d5, d6] }
  | _ => none }
def FnWaitedInGroupIgnoresOrderOfNamesWrongFalsely : Prop := fnWaitedInGroupIgnoresOrderOfNamesRow.holds Try.pinned (OpenSpec.ofChange fnWaitedInGroupIgnoresOrderOfNamesWrong)

end Rows
end Go.Proofs.Qxb6600664a
