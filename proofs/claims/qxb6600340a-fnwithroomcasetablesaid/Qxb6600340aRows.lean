/-
  No cell of these rows narrows 'for every input' (looked for: loops, veiled, ifaces, maps, wideKeys, modest, calm, conditions, laid).
  DERIVED. THE GIVEN ROWS OF THIS SEAT. 5 by the template 'for every input the law returns true; each argument reads behind the call as it read before'; 0 by the template 'total and deterministic' (their statements: Qxb6600340aTotals.lean).
  GIVEN WITH THE SEED: the statements are not yours to turn. If you find one false, say at which input.
  Laid BY PROGRAM, IN A SANDBOX (cutbox-rows.mjs): the forced cells as the released guide's own fill.sh prints them over the translation ae324eb7803936e9… (all of the seat's roots in one cut). By AI agents, Wed Nov 11 2026. No macro, syntax, notation, axiom, sorry.
-/
import Derived.Test.Qxb6600340aChecked
import GoSem.Claim
import GoSem.ClaimJoined
import GoSem.ClaimMapViews
import Derived.JoinedTies
import Derived.KernelRfl
namespace Go.Proofs.Qxb6600340a
/- THE CELL 'sum', in the pinned program and in every row, IS THE sha256 OF THE DUMP (.gsa) THAT Qxb6600340aProg.lean LOADS. Nothing in Lean hashes anything: it is a label: what it is worth is what the hold of that sum in a sandbox is worth. -/
noncomputable def Try.pinned : Pinned := { name := "qxb6600340a", sum := "ae324eb7803936e9ef98616828dfa0cbd4ccba7dca82e9b2aa97ec718add80a9", checked := Try.checked }
namespace Rows
def none {H : Type} : Left H := { results := [], args := [] }

/-- 'zzlaws_saga_b1.FnRepeatsIffSortedNeighboursEqual': WHATEVER THE INPUT: true; the input reads as it did. -/
def fnRepeatsIffSortedNeighboursEqualSpec : ChangeSpec := { name := "fnRepeatsIffSortedNeighboursEqual", fn := fun _ => fun
  | [d] => { results := [.lit (.bool true)], args := [d] }
  | _ => none }
def fnRepeatsIffSortedNeighboursEqualRow : OpenClaim := { program := "qxb6600340a", sum := "ae324eb7803936e9ef98616828dfa0cbd4ccba7dca82e9b2aa97ec718add80a9", func := "example.com/counterstep/counterstep/zzlaws_saga_b1.FnRepeatsIffSortedNeighboursEqual", spec := "fnRepeatsIffSortedNeighboursEqual", apart := false }
def FnRepeatsIffSortedNeighboursEqualSaid : Prop := fnRepeatsIffSortedNeighboursEqualRow.holds Try.pinned (OpenSpec.ofChange fnRepeatsIffSortedNeighboursEqualSpec)

/-- ITS FALSE NEIGHBOUR: 'it returns false'. Refute it at one input. -/
def fnRepeatsIffSortedNeighboursEqualWrong : ChangeSpec := { name := "fnRepeatsIffSortedNeighboursEqual", fn := fun _ => fun
  | [d] => { results := [.lit (.bool false)], args := [d] }
  | _ => none }
def FnRepeatsIffSortedNeighboursEqualWrongFalsely : Prop := fnRepeatsIffSortedNeighboursEqualRow.holds Try.pinned (OpenSpec.ofChange fnRepeatsIffSortedNeighboursEqualWrong)

/-- 'zzlaws_saga_b1.FnRepeatsProgressionDistinctThenDoubled': WHATEVER THE INPUT: true; the input reads as it did. -/
def fnRepeatsProgressionDistinctThenDoubledSpec : ChangeSpec := { name := "fnRepeatsProgressionDistinctThenDoubled", fn := fun _ => fun
  | [d1, d2, d3, d4] => { results := [.lit (.bool true)], args := [d1, d2, d3, d4] }
  | _ => none }
def fnRepeatsProgressionDistinctThenDoubledRow : OpenClaim := { program := "qxb6600340a", sum := "ae324eb7803936e9ef98616828dfa0cbd4ccba7dca82e9b2aa97ec718add80a9", func := "example.com/counterstep/counterstep/zzlaws_saga_b1.FnRepeatsProgressionDistinctThenDoubled", spec := "fnRepeatsProgressionDistinctThenDoubled", apart := false }
def FnRepeatsProgressionDistinctThenDoubledSaid : Prop := fnRepeatsProgressionDistinctThenDoubledRow.holds Try.pinned (OpenSpec.ofChange fnRepeatsProgressionDistinctThenDoubledSpec)

/-- ITS FALSE NEIGHBOUR: 'it returns false'. Refute it at one input. -/
def fnRepeatsProgressionDistinctThenDoubledWrong : ChangeSpec := { name := "fnRepeatsProgressionDistinctThenDoubled", fn := fun _ => fun
  | [d1, d2, d3, d4] => { results := [.lit (.bool false)], args := [d1, d2, d3, d4] }
  | _ => none }
def FnRepeatsProgressionDistinctThenDoubledWrongFalsely : Prop := fnRepeatsProgressionDistinctThenDoubledRow.holds Try.pinned (OpenSpec.ofChange fnRepeatsProgressionDistinctThenDoubledWrong)

/-- 'zzlaws_saga_b1.FnWithRoomCaseTable': WHATEVER THE INPUT: true; the input reads as it did. -/
def fnWithRoomCaseTableSpec : ChangeSpec := { name := "fnWithRoomCaseTable", fn := fun _ => fun
  | [d1, d2, d3, d4, d5] => { results := [.lit (.bool true)], args := [d1, d2, d3, d4, d5] }
  | _ => none }
def fnWithRoomCaseTableRow : OpenClaim := { program := "qxb6600340a", sum := "ae324eb7803936e9ef98616828dfa0cbd4ccba7dca82e9b2aa97ec718add80a9", func := "example.com/counterstep/counterstep/zzlaws_saga_b1.FnWithRoomCaseTable", spec := "fnWithRoomCaseTable", apart := false }
def FnWithRoomCaseTableSaid : Prop := fnWithRoomCaseTableRow.holds Try.pinned (OpenSpec.ofChange fnWithRoomCaseTableSpec)

/-- ITS FALSE NEIGHBOUR: 'it returns false'. Refute it at one input. -/
def fnWithRoomCaseTableWrong : ChangeSpec := { name := "fnWithRoomCaseTable", fn := fun _ => fun
  | [d1, d2, d3, d4, d5] => { results := [.lit (.bool false)], args := [d1, d2, d3, d4, d5] }
  | _ => none }
def FnWithRoomCaseTableWrongFalsely : Prop := fnWithRoomCaseTableRow.holds Try.pinned (OpenSpec.ofChange fnWithRoomCaseTableWrong)

/-- 'zzlaws_saga_b1.FnWithRoomAbsorbsSmallerAsks': WHATEVER THE INPUT: true; the input reads as it did. -/
def fnWithRoomAbsorbsSmallerAsksSpec : ChangeSpec := { name := "fnWithRoomAbsorbsSmallerAsks", fn := fun _ => fun
  | [d1, d2, d3, d4, d5, d6] => { results := [.lit (.bool true)], args := [d1, d2, d3, d4, d5, d6] }
  | _ => none }
def fnWithRoomAbsorbsSmallerAsksRow : OpenClaim := { program := "qxb6600340a", sum := "ae324eb7803936e9ef98616828dfa0cbd4ccba7dca82e9b2aa97ec718add80a9", func := "example.com/counterstep/counterstep/zzlaws_saga_b1.FnWithRoomAbsorbsSmallerAsks", spec := "fnWithRoomAbsorbsSmallerAsks", apart := false }
def FnWithRoomAbsorbsSmallerAsksSaid : Prop := fnWithRoomAbsorbsSmallerAsksRow.holds Try.pinned (OpenSpec.ofChange fnWithRoomAbsorbsSmallerAsksSpec)

/-- ITS FALSE NEIGHBOUR: 'it returns false'. Refute it at one input. -/
def fnWithRoomAbsorbsSmallerAsksWrong : ChangeSpec := { name := "fnWithRoomAbsorbsSmallerAsks", fn := fun _ => fun
  | [d1, d2, d3, d4, d5, d6] => { results := [.lit (.bool false)], args := [d1, d2, d3, d4, d5, d6] }
  | _ => none }
def FnWithRoomAbsorbsSmallerAsksWrongFalsely : Prop := fnWithRoomAbsorbsSmallerAsksRow.holds Try.pinned (OpenSpec.ofChange fnWithRoomAbsorbsSmallerAsksWrong)

/-- 'zzlaws_saga_b1.FnWithRoomGrownCopyLeavesKeys': WHATEVER THE INPUT: true; the input reads as it did. -/
def fnWithRoomGrownCopyLeavesKeysSpec : ChangeSpec := { name := "fnWithRoomGrownCopyLeavesKeys", fn := fun _ => fun
  | [d1, d2, d3, d4, d5] => { results := [.lit (.bool true)], args := [d1, d2, d3, d4, d5] }
  | _ => none }
def fnWithRoomGrownCopyLeavesKeysRow : OpenClaim := { program := "qxb6600340a", sum := "ae324eb7803936e9ef98616828dfa0cbd4ccba7dca82e9b2aa97ec718add80a9", func := "example.com/counterstep/counterstep/zzlaws_saga_b1.FnWithRoomGrownCopyLeavesKeys", spec := "fnWithRoomGrownCopyLeavesKeys", apart := false }
def FnWithRoomGrownCopyLeavesKeysSaid : Prop := fnWithRoomGrownCopyLeavesKeysRow.holds Try.pinned (OpenSpec.ofChange fnWithRoomGrownCopyLeavesKeysSpec)

/-- ITS FALSE NEIGHBOUR: 'it returns false'. Refute it at one input. -/
def fnWithRoomGrownCopyLeavesKeysWrong : ChangeSpec := { name := "fnWithRoomGrownCopyLeavesKeys", fn := fun _ => fun
  | [d1, d2, d3, d4, d5] => { results := [.lit (.bool false)], args := [d1, d2, d3, d4, d5] }
  | _ => none }
def FnWithRoomGrownCopyLeavesKeysWrongFalsely : Prop := fnWithRoomGrownCopyLeavesKeysRow.holds Try.pinned (OpenSpec.ofChange fnWithRoomGrownCopyLeavesKeysWrong)

end Rows
end Go.Proofs.Qxb6600340a
