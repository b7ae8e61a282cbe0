/-
  No cell of these rows narrows 'for every input' (looked for: loops, veiled, ifaces, maps, wideKeys, modest, calm, conditions, laid).
  DERIVED. THE GIVEN ROWS OF THIS SEAT. 7 by the template 'for every input the law returns true; each argument reads behind the call as it read before'; 0 by the template 'total and deterministic' (their statements: Qxb6601498aModsTotals.lean).
  GIVEN WITH THE SEED: the statements are not yours to turn. If you find one false, say at which input.
  Laid BY PROGRAM, IN A SANDBOX (cutbox-rows.mjs): the forced cells as the released guide's own fill.sh prints them over the translation b0aa5106651d9a9c… (all of the seat's roots in one cut). By AI agents, Wed Nov 11 2026. No macro, syntax, notation, axiom, sorry.
-/
import Derived.Test.Qxb6601498aModsChecked
import GoSem.Claim
import GoSem.ClaimJoined
import GoSem.ClaimMapViews
import Derived.JoinedTies
import Derived.KernelRfl
namespace Go.Proofs.Qxb6601498aMods
/- THE CELL 'sum', in the pinned program and in every row, IS THE sha256 OF THE DUMP (.gsa) THAT Qxb6601498aModsProg.lean LOADS. Nothing in Lean hashes anything: it is a label: what it is worth is what the hold of that sum in a sandbox is worth. -/
noncomputable def Trym.pinned : Pinned := { name := "qxb6601498amods", sum := "b0aa5106651d9a9c9c8b8d466d38f5ea3f7d9195c5ff9781bb3d4951c7921ccb", checked := Trym.checked }
namespace Rows
def none {H : Type} : Left H := { results := [], args := [] }

/-- 'zzlaws_internal_relay_b1.FnLanesExact': WHATEVER THE INPUT: true; the input reads as it did. -/
def fnLanesExactSpec : ChangeSpec := { name := "fnLanesExact", fn := fun _ => fun
  | [d1, d2, d3, d4] => { results := [.lit (.bool true)], args := [d1, d2, d3, d4] }
  | _ => none }
def fnLanesExactRow : OpenClaim := { program := "qxb6601498amods", sum := "b0aa5106651d9a9c9c8b8d466d38f5ea3f7d9195c5ff9781bb3d4951c7921ccb", func := "example.com/sealpost/sealpost/zzlaws_internal_relay_b1.FnLanesExact", spec := "fnLanesExact", plainKeys := false, make := .lifted ["publicsums"], apart := false }
def FnLanesExactSaid : Prop := fnLanesExactRow.holds Trym.pinned (OpenSpec.ofChange fnLanesExactSpec)

/-- ITS FALSE NEIGHBOUR: 'it returns false'. Refute it at one input. -/
def fnLanesExactWrong : ChangeSpec := { name := "fnLanesExact", fn := fun _ => fun
  | [d1, d2, d3, d4] => { results := [.lit (.bool false)], args := [d1, d2, d3, d4] }
  | _ => none }
def FnLanesExactWrongFalsely : Prop := fnLanesExactRow.holds Trym.pinned (OpenSpec.ofChange fnLanesExactWrong)

/-- 'zzlaws_internal_relay_b1.FnLanesPartitionRows': WHATEVER THE INPUT: true; the input reads as it did. -/
def fnLanesPartitionRowsSpec : ChangeSpec := { name := "fnLanesPartitionRows", fn := fun _ => fun
  | [d1, d2, d3, d4] => { results := [.lit (.bool true)], args := [d1, d2, d3, d4] }
  | _ => none }
def fnLanesPartitionRowsRow : OpenClaim := { program := "qxb6601498amods", sum := "b0aa5106651d9a9c9c8b8d466d38f5ea3f7d9195c5ff9781bb3d4951c7921ccb", func := "example.com/sealpost/sealpost/zzlaws_internal_relay_b1.FnLanesPartitionRows", spec := "fnLanesPartitionRows", plainKeys := false, make := .lifted ["publicsums"], apart := false }
def FnLanesPartitionRowsSaid : Prop := fnLanesPartitionRowsRow.holds Trym.pinned (OpenSpec.ofChange fnLanesPartitionRowsSpec)

/-- ITS FALSE NEIGHBOUR: 'it returns false'. Refute it at one input. -/
def fnLanesPartitionRowsWrong : ChangeSpec := { name := "fnLanesPartitionRows", fn := fun _ => fun
  | [d1, d2, d3, d4] => { results := [.lit (.bool false)], args := [d1, d2, d3, d4] }
  | _ => none }
def FnLanesPartitionRowsWrongFalsely : Prop := fnLanesPartitionRowsRow.holds Trym.pinned (OpenSpec.ofChange fnLanesPartitionRowsWrong)

/-- 'zzlaws_internal_relay_b1.FnGoingExact': WHATEVER THE INPUT: true; the input reads as it did. -/
def fnGoingExactSpec : ChangeSpec := { name := "fnGoingExact", fn := fun _ => fun
  | [d] => { results := [.lit (.bool true)], args := [d] }
  | _ => none }
def fnGoingExactRow : OpenClaim := { program := "qxb6601498amods", sum := "b0aa5106651d9a9c9c8b8d466d38f5ea3f7d9195c5ff9781bb3d4951c7921ccb", func := "example.com/sealpost/sealpost/zzlaws_internal_relay_b1.FnGoingExact", spec := "fnGoingExact", plainKeys := false, make := .lifted ["publicsums"], apart := false }
def FnGoingExactSaid : Prop := fnGoingExactRow.holds Trym.pinned (OpenSpec.ofChange fnGoingExactSpec)

/-- ITS FALSE NEIGHBOUR: 'it returns false'. Refute it at one input. -/
def fnGoingExactWrong : ChangeSpec := { name := "fnGoingExact", fn := fun _ => fun
  | [d] => { results := [.lit (.bool false)], args := [d] }
  | _ => none }
def FnGoingExactWrongFalsely : Prop := fnGoingExactRow.holds Trym.pinned (OpenSpec.ofChange fnGoingExactWrong)

/-- 'zzlaws_internal_relay_b1.FnGoingConcat': WHATEVER THE INPUT: true; the input reads as it did. -/
def fnGoingConcatSpec : ChangeSpec := { name := "fnGoingConcat", fn := fun _ => fun
  | [d1, d2] => { results := [.lit (.bool true)], args := [d1, d2] }
  | _ => none }
def fnGoingConcatRow : OpenClaim := { program := "qxb6601498amods", sum := "b0aa5106651d9a9c9c8b8d466d38f5ea3f7d9195c5ff9781bb3d4951c7921ccb", func := "example.com/sealpost/sealpost/zzlaws_internal_relay_b1.FnGoingConcat", spec := "fnGoingConcat", plainKeys := false, make := .lifted ["publicsums"], apart := false }
def FnGoingConcatSaid : Prop := fnGoingConcatRow.holds Trym.pinned (OpenSpec.ofChange fnGoingConcatSpec)

/-- ITS FALSE NEIGHBOUR: 'it returns false'. Refute it at one input. -/
def fnGoingConcatWrong : ChangeSpec := { name := "fnGoingConcat", fn := fun _ => fun
  | [d1, d2] => { results := [.lit (.bool false)], args := [d1, d2] }
  | _ => none }
def FnGoingConcatWrongFalsely : Prop := fnGoingConcatRow.holds Trym.pinned (OpenSpec.ofChange fnGoingConcatWrong)

/-- 'zzlaws_internal_relay_b1.FnEndedExact': WHATEVER THE INPUT: true; the input reads as it did. -/
def fnEndedExactSpec : ChangeSpec := { name := "fnEndedExact", fn := fun _ => fun
  | [d1, d2] => { results := [.lit (.bool true)], args := [d1, d2] }
  | _ => none }
def fnEndedExactRow : OpenClaim := { program := "qxb6601498amods", sum := "b0aa5106651d9a9c9c8b8d466d38f5ea3f7d9195c5ff9781bb3d4951c7921ccb", func := "example.com/sealpost/sealpost/zzlaws_internal_relay_b1.FnEndedExact", spec := "fnEndedExact", plainKeys := false, make := .lifted ["publicsums"], apart := false }
def FnEndedExactSaid : Prop := fnEndedExactRow.holds Trym.pinned (OpenSpec.ofChange fnEndedExactSpec)

/-- ITS FALSE NEIGHBOUR: 'it returns false'. Refute it at one input. -/
def fnEndedExactWrong : ChangeSpec := { name := "fnEndedExact", fn := fun _ => fun
  | [d1, d2] => { results := [.lit (.bool false)], args := [d1, d2] }
  | _ => none }
def FnEndedExactWrongFalsely : Prop := fnEndedExactRow.holds Trym.pinned (OpenSpec.ofChange fnEndedExactWrong)

/-- 'zzlaws_internal_relay_b1.FnEndedSplit': WHATEVER THE INPUT: true; the input reads as it did. -/
def fnEndedSplitSpec : ChangeSpec := { name := "fnEndedSplit", fn := fun _ => fun
  | [d1, d2, d3] => { results := [.lit (.bool true)], args := [d1, d2, d3] }
  | _ => none }
def fnEndedSplitRow : OpenClaim := { program := "qxb6601498amods", sum := "b0aa5106651d9a9c9c8b8d466d38f5ea3f7d9195c5ff9781bb3d4951c7921ccb", func := "example.com/sealpost/sealpost/zzlaws_internal_relay_b1.FnEndedSplit", spec := "fnEndedSplit", plainKeys := false, make := .lifted ["publicsums"], apart := false }
def FnEndedSplitSaid : Prop := fnEndedSplitRow.holds Trym.pinned (OpenSpec.ofChange fnEndedSplitSpec)

/-- ITS FALSE NEIGHBOUR: 'it returns false'. Refute it at one input. -/
def fnEndedSplitWrong : ChangeSpec := { name := "fnEndedSplit", fn := fun _ => fun
  | [d1, d2, d3] => { results := [.lit (.bool false)], args := [d1, d2, d3] }
  | _ => none }
def FnEndedSplitWrongFalsely : Prop := fnEndedSplitRow.holds Trym.pinned (OpenSpec.ofChange fnEndedSplitWrong)

/-- 'zzlaws_internal_relay_b1.FnEndedSelfAndDrop': WHATEVER THE INPUT: true; the input reads as it did. -/
def fnEndedSelfAndDropSpec : ChangeSpec := { name := "fnEndedSelfAndDrop", fn := fun _ => fun
  | [d] => { results := [.lit (.bool true)], args := [d] }
  | _ => none }
def fnEndedSelfAndDropRow : OpenClaim := { program := "qxb6601498amods", sum := "b0aa5106651d9a9c9c8b8d466d38f5ea3f7d9195c5ff9781bb3d4951c7921ccb", func := "example.com/sealpost/sealpost/zzlaws_internal_relay_b1.FnEndedSelfAndDrop", spec := "fnEndedSelfAndDrop", plainKeys := false, make := .lifted ["publicsums"], apart := false }
def FnEndedSelfAndDropSaid : Prop := fnEndedSelfAndDropRow.holds Trym.pinned (OpenSpec.ofChange fnEndedSelfAndDropSpec)

/-- ITS FALSE NEIGHBOUR: 'it returns false'. Refute it at one input. -/
def fnEndedSelfAndDropWrong : ChangeSpec := { name := "fnEndedSelfAndDrop", fn := fun _ => fun
  | [d] => { results := [.lit (.bool false)], args := [d] }
  | _ => none }
def FnEndedSelfAndDropWrongFalsely : Prop := fnEndedSelfAndDropRow.holds Trym.pinned (OpenSpec.ofChange fnEndedSelfAndDropWrong)

end Rows
end Go.Proofs.Qxb6601498aMods
