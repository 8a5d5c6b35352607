/-
  No cell of these rows narrows 'for every input' (looked for: loops, veiled, ifaces, maps, wideKeys, modest, calm, conditions, laid).
  DERIVED. THE GIVEN ROWS OF THIS SEAT. 7 by the template 'for every input the law returns true; each argument reads behind the call as it read before'; 0 by the template 'total and deterministic' (their statements: Qxb6000359aTotals.lean).
  GIVEN WITH THE SEED: the statements are not yours to turn. If you find one false, say at which input.
  Laid BY PROGRAM, IN A SANDBOX (cutbox-rows.mjs): the forced cells as the released guide's own fill.sh prints them over the translation bc0b7a420d20161e… (all of the seat's roots in one cut). By AI agents, Wed Nov 11 2026. No macro, syntax, notation, axiom, sorry.
-/
import Derived.Test.Qxb6000359aChecked
import GoSem.Claim
import GoSem.ClaimJoined
import GoSem.ClaimMapViews
import Derived.JoinedTies
import Derived.KernelRfl
namespace Go.Proofs.Qxb6000359a
/- THE CELL 'sum', in the pinned program and in every row, IS THE sha256 OF THE DUMP (.gsa) THAT Qxb6000359aProg.lean LOADS. Nothing in Lean hashes anything: it is a label: what it is worth is what the hold of that sum in a sandbox is worth. -/
noncomputable def Try.pinned : Pinned := { name := "qxb6000359a", sum := "bc0b7a420d20161edef5076e4418161c5ea43d28446d6e841a7ae49bc3511286", checked := Try.checked }
namespace Rows
def none {H : Type} : Left H := { results := [], args := [] }

/-- 'zzlaws_internal_order_b1.FnSeqSetAddMatchesSetModel': WHATEVER THE INPUT: true; the input reads as it did. -/
def fnSeqSetAddMatchesSetModelSpec : ChangeSpec := { name := "fnSeqSetAddMatchesSetModel", fn := fun _ => fun
  | [d1, d2] => { results := [.lit (.bool true)], args := [d1, d2] }
  | _ => none }
def fnSeqSetAddMatchesSetModelRow : OpenClaim := { program := "qxb6000359a", sum := "bc0b7a420d20161edef5076e4418161c5ea43d28446d6e841a7ae49bc3511286", func := "example.com/deferra/deferra/zzlaws_internal_order_b1.FnSeqSetAddMatchesSetModel", spec := "fnSeqSetAddMatchesSetModel", apart := false }
def FnSeqSetAddMatchesSetModelSaid : Prop := fnSeqSetAddMatchesSetModelRow.holds Try.pinned (OpenSpec.ofChange fnSeqSetAddMatchesSetModelSpec)

/-- ITS FALSE NEIGHBOUR: 'it returns false'. Refute it at one input. -/
def fnSeqSetAddMatchesSetModelWrong : ChangeSpec := { name := "fnSeqSetAddMatchesSetModel", fn := fun _ => fun
  | [d1, d2] => { results := [.lit (.bool false)], args := [d1, d2] }
  | _ => none }
def FnSeqSetAddMatchesSetModelWrongFalsely : Prop := fnSeqSetAddMatchesSetModelRow.holds Try.pinned (OpenSpec.ofChange fnSeqSetAddMatchesSetModelWrong)

/-- 'zzlaws_internal_order_b1.FnSeqSetOrderFree': WHATEVER THE INPUT: true; the input reads as it did. -/
def fnSeqSetOrderFreeSpec : ChangeSpec := { name := "fnSeqSetOrderFree", fn := fun _ => fun
  | [d1, d2] => { results := [.lit (.bool true)], args := [d1, d2] }
  | _ => none }
def fnSeqSetOrderFreeRow : OpenClaim := { program := "qxb6000359a", sum := "bc0b7a420d20161edef5076e4418161c5ea43d28446d6e841a7ae49bc3511286", func := "example.com/deferra/deferra/zzlaws_internal_order_b1.FnSeqSetOrderFree", spec := "fnSeqSetOrderFree", apart := false }
def FnSeqSetOrderFreeSaid : Prop := fnSeqSetOrderFreeRow.holds Try.pinned (OpenSpec.ofChange fnSeqSetOrderFreeSpec)

/-- ITS FALSE NEIGHBOUR: 'it returns false'. Refute it at one input. -/
def fnSeqSetOrderFreeWrong : ChangeSpec := { name := "fnSeqSetOrderFree", fn := fun _ => fun
  | [d1, d2] => { results := [.lit (.bool false)], args := [d1, d2] }
  | _ => none }
def FnSeqSetOrderFreeWrongFalsely : Prop := fnSeqSetOrderFreeRow.holds Try.pinned (OpenSpec.ofChange fnSeqSetOrderFreeWrong)

/-- 'zzlaws_internal_order_b1.FnSeqSetReplayAddsNothing': WHATEVER THE INPUT: true; the input reads as it did. -/
def fnSeqSetReplayAddsNothingSpec : ChangeSpec := { name := "fnSeqSetReplayAddsNothing", fn := fun _ => fun
  | [d1, d2] => { results := [.lit (.bool true)], args := [d1, d2] }
  | _ => none }
def fnSeqSetReplayAddsNothingRow : OpenClaim := { program := "qxb6000359a", sum := "bc0b7a420d20161edef5076e4418161c5ea43d28446d6e841a7ae49bc3511286", func := "example.com/deferra/deferra/zzlaws_internal_order_b1.FnSeqSetReplayAddsNothing", spec := "fnSeqSetReplayAddsNothing", apart := false }
def FnSeqSetReplayAddsNothingSaid : Prop := fnSeqSetReplayAddsNothingRow.holds Try.pinned (OpenSpec.ofChange fnSeqSetReplayAddsNothingSpec)

/-- ITS FALSE NEIGHBOUR: 'it returns false'. Refute it at one input. -/
def fnSeqSetReplayAddsNothingWrong : ChangeSpec := { name := "fnSeqSetReplayAddsNothing", fn := fun _ => fun
  | [d1, d2] => { results := [.lit (.bool false)], args := [d1, d2] }
  | _ => none }
def FnSeqSetReplayAddsNothingWrongFalsely : Prop := fnSeqSetReplayAddsNothingRow.holds Try.pinned (OpenSpec.ofChange fnSeqSetReplayAddsNothingWrong)

/-- 'zzlaws_internal_order_b1.FnWaitDueMatchesSchedule': WHATEVER THE INPUT: true; the input reads as it did. -/
def fnWaitDueMatchesScheduleSpec : ChangeSpec := { name := "fnWaitDueMatchesSchedule", fn := fun _ => fun
  | [d1, d2, d3, d4] => { results := [.lit (.bool true)], args := [d1, d2, d3, d4] }
  | _ => none }
def fnWaitDueMatchesScheduleRow : OpenClaim := { program := "qxb6000359a", sum := "bc0b7a420d20161edef5076e4418161c5ea43d28446d6e841a7ae49bc3511286", func := "example.com/deferra/deferra/zzlaws_internal_order_b1.FnWaitDueMatchesSchedule", spec := "fnWaitDueMatchesSchedule", apart := false }
def FnWaitDueMatchesScheduleSaid : Prop := fnWaitDueMatchesScheduleRow.holds Try.pinned (OpenSpec.ofChange fnWaitDueMatchesScheduleSpec)

/-- ITS FALSE NEIGHBOUR: 'it returns false'. Refute it at one input. -/
def fnWaitDueMatchesScheduleWrong : ChangeSpec := { name := "fnWaitDueMatchesSchedule", fn := fun _ => fun
  | [d1, d2, d3, d4] => { results := [.lit (.bool false)], args := [d1, d2, d3, d4] }
  | _ => none }
def FnWaitDueMatchesScheduleWrongFalsely : Prop := fnWaitDueMatchesScheduleRow.holds Try.pinned (OpenSpec.ofChange fnWaitDueMatchesScheduleWrong)

/-- 'zzlaws_internal_order_b1.FnWaitTriesSpacedByRetry': WHATEVER THE INPUT: true; the input reads as it did. -/
def fnWaitTriesSpacedByRetrySpec : ChangeSpec := { name := "fnWaitTriesSpacedByRetry", fn := fun _ => fun
  | [d1, d2, d3, d4, d5] => { results := [.lit (.bool true)], args := [d1, d2, d3, d4, d5] }
  | _ => none }
def fnWaitTriesSpacedByRetryRow : OpenClaim := { program := "qxb6000359a", sum := "bc0b7a420d20161edef5076e4418161c5ea43d28446d6e841a7ae49bc3511286", func := "example.com/deferra/deferra/zzlaws_internal_order_b1.FnWaitTriesSpacedByRetry", spec := "fnWaitTriesSpacedByRetry", apart := false }
def FnWaitTriesSpacedByRetrySaid : Prop := fnWaitTriesSpacedByRetryRow.holds Try.pinned (OpenSpec.ofChange fnWaitTriesSpacedByRetrySpec)

/-- ITS FALSE NEIGHBOUR: 'it returns false'. Refute it at one input. -/
def fnWaitTriesSpacedByRetryWrong : ChangeSpec := { name := "fnWaitTriesSpacedByRetry", fn := fun _ => fun
  | [d1, d2, d3, d4, d5] => { results := [.lit (.bool false)], args := [d1, d2, d3, d4, d5] }
  | _ => none }
def FnWaitTriesSpacedByRetryWrongFalsely : Prop := fnWaitTriesSpacedByRetryRow.holds Try.pinned (OpenSpec.ofChange fnWaitTriesSpacedByRetryWrong)

/-- 'zzlaws_internal_order_b1.FnMembersCloneEqualsOriginal': WHATEVER THE INPUT: true; the input reads as it did. -/
def fnMembersCloneEqualsOriginalSpec : ChangeSpec := { name := "fnMembersCloneEqualsOriginal", fn := fun _ => fun
  | [d1, d2, d3, d4, d5] => { results := [.lit (.bool true)], args := [d1, d2, d3, d4, d5] }
  | _ => none }
def fnMembersCloneEqualsOriginalRow : OpenClaim := { program := "qxb6000359a", sum := "bc0b7a420d20161edef5076e4418161c5ea43d28446d6e841a7ae49bc3511286", func := "example.com/deferra/deferra/zzlaws_internal_order_b1.FnMembersCloneEqualsOriginal", spec := "fnMembersCloneEqualsOriginal", apart := false }
def FnMembersCloneEqualsOriginalSaid : Prop := fnMembersCloneEqualsOriginalRow.holds Try.pinned (OpenSpec.ofChange fnMembersCloneEqualsOriginalSpec)

/-- ITS FALSE NEIGHBOUR: 'it returns false'. Refute it at one input. -/
def fnMembersCloneEqualsOriginalWrong : ChangeSpec := { name := "fnMembersCloneEqualsOriginal", fn := fun _ => fun
  | [d1, d2, d3, d4, d5] => { results := [.lit (.bool false)], args := [d1, d2, d3, d4, d5] }
  | _ => none }
def FnMembersCloneEqualsOriginalWrongFalsely : Prop := fnMembersCloneEqualsOriginalRow.holds Try.pinned (OpenSpec.ofChange fnMembersCloneEqualsOriginalWrong)

/-- 'zzlaws_internal_order_b1.FnMembersCloneSharesNothing': WHATEVER THE INPUT: true; the input reads as it did. -/
def fnMembersCloneSharesNothingSpec : ChangeSpec := { name := "fnMembersCloneSharesNothing", fn := fun _ => fun
  | [d1, d2, d3, d4, d5] => { results := [.lit (.bool true)], args := [d1, d2, d3, d4, d5] }
  | _ => none }
def fnMembersCloneSharesNothingRow : OpenClaim := { program := "qxb6000359a", sum := "bc0b7a420d20161edef5076e4418161c5ea43d28446d6e841a7ae49bc3511286", func := "example.com/deferra/deferra/zzlaws_internal_order_b1.FnMembersCloneSharesNothing", spec := "fnMembersCloneSharesNothing", apart := false }
def FnMembersCloneSharesNothingSaid : Prop := fnMembersCloneSharesNothingRow.holds Try.pinned (OpenSpec.ofChange fnMembersCloneSharesNothingSpec)

/-- ITS FALSE NEIGHBOUR: 'it returns false'. Refute it at one input. -/
def fnMembersCloneSharesNothingWrong : ChangeSpec := { name := "fnMembersCloneSharesNothing", fn := fun _ => fun
  | [d1, d2, d3, d4, d5] => { results := [.lit (.bool false)], args := [d1, d2, d3, d4, d5] }
  | _ => none }
def FnMembersCloneSharesNothingWrongFalsely : Prop := fnMembersCloneSharesNothingRow.holds Try.pinned (OpenSpec.ofChange fnMembersCloneSharesNothingWrong)

end Rows
end Go.Proofs.Qxb6000359a
