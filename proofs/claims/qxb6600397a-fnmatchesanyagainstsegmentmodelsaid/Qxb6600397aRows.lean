/-
  No cell of these rows narrows 'for every input' (looked for: loops, veiled, ifaces, maps, wideKeys, modest, calm, conditions, laid).
  DERIVED. THE GIVEN ROWS OF THIS SEAT. 4 by the template 'for every input the law returns true; each argument reads behind the call as it read before'; 0 by the template 'total and deterministic' (their statements: Qxb6600397aTotals.lean).
  GIVEN WITH THE SEED: the statements are not yours to turn. If you find one false, say at which input.
  Laid BY PROGRAM, IN A SANDBOX (cutbox-rows.mjs): the forced cells as the released guide's own fill.sh prints them over the translation 696ed5a78b18be22… (all of the seat's roots in one cut). By AI agents, Wed Nov 11 2026. No macro, syntax, notation, axiom, sorry.
-/
import Derived.Test.Qxb6600397aChecked
import GoSem.Claim
import GoSem.ClaimJoined
import GoSem.ClaimMapViews
import Derived.JoinedTies
import Derived.KernelRfl
namespace Go.Proofs.Qxb6600397a
/- THE CELL 'sum', in the pinned program and in every row, IS THE sha256 OF THE DUMP (.gsa) THAT Qxb6600397aProg.lean LOADS. Nothing in Lean hashes anything: it is a label: what it is worth is what the hold of that sum in a sandbox is worth. -/
noncomputable def Try.pinned : Pinned := { name := "qxb6600397a", sum := "696ed5a78b18be2275f1708d2174922b1b64de12509685164f09193cd306eb62", checked := Try.checked }
namespace Rows
def none {H : Type} : Left H := { results := [], args := [] }

/-- 'zzlaws_internal_eventtype_b1.FnMatchesAgainstSegmentModel': WHATEVER THE INPUT: true; the input reads as it did. -/
def fnMatchesAgainstSegmentModelSpec : ChangeSpec := { name := "fnMatchesAgainstSegmentModel", fn := fun _ => fun
  | [d1, d2] => { results := [.lit (.bool true)], args := [d1, d2] }
  | _ => none }
def fnMatchesAgainstSegmentModelRow : OpenClaim := { program := "qxb6600397a", sum := "696ed5a78b18be2275f1708d2174922b1b64de12509685164f09193cd306eb62", func := "example.com/hookwright/hookwright/zzlaws_internal_eventtype_b1.FnMatchesAgainstSegmentModel", spec := "fnMatchesAgainstSegmentModel", apart := false }
def FnMatchesAgainstSegmentModelSaid : Prop := fnMatchesAgainstSegmentModelRow.holds Try.pinned (OpenSpec.ofChange fnMatchesAgainstSegmentModelSpec)

/-- ITS FALSE NEIGHBOUR: 'it returns false'. Refute it at one input. -/
def fnMatchesAgainstSegmentModelWrong : ChangeSpec := { name := "fnMatchesAgainstSegmentModel", fn := fun _ => fun
  | [d1, d2] => { results := [.lit (.bool false)], args := [d1, d2] }
  | _ => none }
def FnMatchesAgainstSegmentModelWrongFalsely : Prop := fnMatchesAgainstSegmentModelRow.holds Try.pinned (OpenSpec.ofChange fnMatchesAgainstSegmentModelWrong)

/-- 'zzlaws_internal_eventtype_b1.FnMatchesReflexiveAndPrefixPatternsNest': WHATEVER THE INPUT: true; the input reads as it did. -/
def fnMatchesReflexiveAndPrefixPatternsNestSpec : ChangeSpec := { name := "fnMatchesReflexiveAndPrefixPatternsNest", fn := fun _ => fun
  | [d1, d2, d3] => { results := [.lit (.bool true)], args := [d1, d2, d3] }
  | _ => none }
def fnMatchesReflexiveAndPrefixPatternsNestRow : OpenClaim := { program := "qxb6600397a", sum := "696ed5a78b18be2275f1708d2174922b1b64de12509685164f09193cd306eb62", func := "example.com/hookwright/hookwright/zzlaws_internal_eventtype_b1.FnMatchesReflexiveAndPrefixPatternsNest", spec := "fnMatchesReflexiveAndPrefixPatternsNest", apart := false }
def FnMatchesReflexiveAndPrefixPatternsNestSaid : Prop := fnMatchesReflexiveAndPrefixPatternsNestRow.holds Try.pinned (OpenSpec.ofChange fnMatchesReflexiveAndPrefixPatternsNestSpec)

/-- ITS FALSE NEIGHBOUR: 'it returns false'. Refute it at one input. -/
def fnMatchesReflexiveAndPrefixPatternsNestWrong : ChangeSpec := { name := "fnMatchesReflexiveAndPrefixPatternsNest", fn := fun _ => fun
  | [d1, d2, d3] => { results := [.lit (.bool false)], args := [d1, d2, d3] }
  | _ => none }
def FnMatchesReflexiveAndPrefixPatternsNestWrongFalsely : Prop := fnMatchesReflexiveAndPrefixPatternsNestRow.holds Try.pinned (OpenSpec.ofChange fnMatchesReflexiveAndPrefixPatternsNestWrong)

/-- 'zzlaws_internal_eventtype_b1.FnMatchesAnyAgainstSegmentModel': WHATEVER THE INPUT: true; the input reads as it did. -/
def fnMatchesAnyAgainstSegmentModelSpec : ChangeSpec := { name := "fnMatchesAnyAgainstSegmentModel", fn := fun _ => fun
  | [d1, d2] => { results := [.lit (.bool true)], args := [d1, d2] }
  | _ => none }
def fnMatchesAnyAgainstSegmentModelRow : OpenClaim := { program := "qxb6600397a", sum := "696ed5a78b18be2275f1708d2174922b1b64de12509685164f09193cd306eb62", func := "example.com/hookwright/hookwright/zzlaws_internal_eventtype_b1.FnMatchesAnyAgainstSegmentModel", spec := "fnMatchesAnyAgainstSegmentModel", apart := false }
def FnMatchesAnyAgainstSegmentModelSaid : Prop := fnMatchesAnyAgainstSegmentModelRow.holds Try.pinned (OpenSpec.ofChange fnMatchesAnyAgainstSegmentModelSpec)

/-- ITS FALSE NEIGHBOUR: 'it returns false'. Refute it at one input. -/
def fnMatchesAnyAgainstSegmentModelWrong : ChangeSpec := { name := "fnMatchesAnyAgainstSegmentModel", fn := fun _ => fun
  | [d1, d2] => { results := [.lit (.bool false)], args := [d1, d2] }
  | _ => none }
def FnMatchesAnyAgainstSegmentModelWrongFalsely : Prop := fnMatchesAnyAgainstSegmentModelRow.holds Try.pinned (OpenSpec.ofChange fnMatchesAnyAgainstSegmentModelWrong)

/-- 'zzlaws_internal_eventtype_b1.FnMatchesAnySplitsAtEveryPoint': WHATEVER THE INPUT: true; the input reads as it did. -/
def fnMatchesAnySplitsAtEveryPointSpec : ChangeSpec := { name := "fnMatchesAnySplitsAtEveryPoint", fn := fun _ => fun
  | [d1, d2, d3] => { results := [.lit (.bool true)], args := [d1, d2, d3] }
  | _ => none }
def fnMatchesAnySplitsAtEveryPointRow : OpenClaim := { program := "qxb6600397a", sum := "696ed5a78b18be2275f1708d2174922b1b64de12509685164f09193cd306eb62", func := "example.com/hookwright/hookwright/zzlaws_internal_eventtype_b1.FnMatchesAnySplitsAtEveryPoint", spec := "fnMatchesAnySplitsAtEveryPoint", apart := false }
def FnMatchesAnySplitsAtEveryPointSaid : Prop := fnMatchesAnySplitsAtEveryPointRow.holds Try.pinned (OpenSpec.ofChange fnMatchesAnySplitsAtEveryPointSpec)

/-- ITS FALSE NEIGHBOUR: 'it returns false'. Refute it at one input. -/
def fnMatchesAnySplitsAtEveryPointWrong : ChangeSpec := { name := "fnMatchesAnySplitsAtEveryPoint", fn := fun _ => fun
  | [d1, d2, d3] => { results := [.lit (.bool false)], args := [d1, d2, d3] }
  | _ => none }
def FnMatchesAnySplitsAtEveryPointWrongFalsely : Prop := fnMatchesAnySplitsAtEveryPointRow.holds Try.pinned (OpenSpec.ofChange fnMatchesAnySplitsAtEveryPointWrong)

end Rows
end Go.Proofs.Qxb6600397a
