/-
  No cell of these rows narrows 'for every input' (looked for: loops, veiled, ifaces, maps, wideKeys, modest, calm, conditions, laid).
  DERIVED. THE GIVEN ROWS OF THIS SEAT. 5 by the template 'for every input the law returns true; each argument reads behind the call as it read before'; 0 by the template 'total and deterministic' (their statements: Qxb6601288aTotals.lean).
  GIVEN WITH THE SEED: the statements are not yours to turn. If you find one false, say at which input.
  Laid BY PROGRAM, IN A SANDBOX (cutbox-rows.mjs): the forced cells as the released guide's own fill.sh prints them over the translation 9d3a61d5246e8004… (all of the seat's roots in one cut). By AI agents, Wed Nov 11 2026. No macro, syntax, notation, axiom, sorry.
-/
import Derived.Test.Qxb6601288aChecked
import GoSem.Claim
import GoSem.ClaimJoined
import GoSem.ClaimMapViews
import Derived.JoinedTies
import Derived.KernelRfl
namespace Go.Proofs.Qxb6601288a
/- THE CELL 'sum', in the pinned program and in every row, IS THE sha256 OF THE DUMP (.gsa) THAT Qxb6601288aProg.lean LOADS. Nothing in Lean hashes anything: it is a label: what it is worth is what the hold of that sum in a sandbox is worth. -/
noncomputable def Try.pinned : Pinned := { name := "qxb6601288a", sum := "9d3a61d5246e8004d0a059bb2bed96f66d33f96163aecfe794cdd8035f691836", checked := Try.checked }
namespace Rows
def none {H : Type} : Left H := { results := [], args := [] }

/-- 'zzlaws_internal_state_b1.FnNameSetAddMatchesSetModel': WHATEVER THE INPUT: true; the input reads as it did. -/
def fnNameSetAddMatchesSetModelSpec : ChangeSpec := { name := "fnNameSetAddMatchesSetModel", fn := fun _ => fun
  | [d1, d2, d3] => { results := [.lit (.bool true)], args := [d1, d2, d3] }
  | _ => none }
def fnNameSetAddMatchesSetModelRow : OpenClaim := { program := "qxb6601288a", sum := "9d3a61d5246e8004d0a059bb2bed96f66d33f96163aecfe794cdd8035f691836", func := "example.com/regentd/regentd/zzlaws_internal_state_b1.FnNameSetAddMatchesSetModel", spec := "fnNameSetAddMatchesSetModel", apart := false }
def FnNameSetAddMatchesSetModelSaid : Prop := fnNameSetAddMatchesSetModelRow.holds Try.pinned (OpenSpec.ofChange fnNameSetAddMatchesSetModelSpec)

/-- ITS FALSE NEIGHBOUR: 'it returns false'. Refute it at one input. -/
def fnNameSetAddMatchesSetModelWrong : ChangeSpec := { name := "fnNameSetAddMatchesSetModel", fn := fun _ => fun
  | [d1, d2, d3] => { results := [.lit (.bool false)], args := [d1, d2, d3] }
  | _ => none }
def FnNameSetAddMatchesSetModelWrongFalsely : Prop := fnNameSetAddMatchesSetModelRow.holds Try.pinned (OpenSpec.ofChange fnNameSetAddMatchesSetModelWrong)

/-- 'zzlaws_internal_state_b1.FnNameSetRemoveMatchesSetModel': WHATEVER THE INPUT: true; the input reads as it did. -/
def fnNameSetRemoveMatchesSetModelSpec : ChangeSpec := { name := "fnNameSetRemoveMatchesSetModel", fn := fun _ => fun
  | [d1, d2, d3] => { results := [.lit (.bool true)], args := [d1, d2, d3] }
  | _ => none }
def fnNameSetRemoveMatchesSetModelRow : OpenClaim := { program := "qxb6601288a", sum := "9d3a61d5246e8004d0a059bb2bed96f66d33f96163aecfe794cdd8035f691836", func := "example.com/regentd/regentd/zzlaws_internal_state_b1.FnNameSetRemoveMatchesSetModel", spec := "fnNameSetRemoveMatchesSetModel", apart := false }
def FnNameSetRemoveMatchesSetModelSaid : Prop := fnNameSetRemoveMatchesSetModelRow.holds Try.pinned (OpenSpec.ofChange fnNameSetRemoveMatchesSetModelSpec)

/-- ITS FALSE NEIGHBOUR: 'it returns false'. Refute it at one input. -/
def fnNameSetRemoveMatchesSetModelWrong : ChangeSpec := { name := "fnNameSetRemoveMatchesSetModel", fn := fun _ => fun
  | [d1, d2, d3] => { results := [.lit (.bool false)], args := [d1, d2, d3] }
  | _ => none }
def FnNameSetRemoveMatchesSetModelWrongFalsely : Prop := fnNameSetRemoveMatchesSetModelRow.holds Try.pinned (OpenSpec.ofChange fnNameSetRemoveMatchesSetModelWrong)

/-- 'zzlaws_internal_state_b1.FnNameSetScriptKeepsShapeAndSet': WHATEVER THE INPUT: true; the input reads as it did. -/
def fnNameSetScriptKeepsShapeAndSetSpec : ChangeSpec := { name := "fnNameSetScriptKeepsShapeAndSet", fn := fun _ => fun
  | [d1, d2] => { results := [.lit (.bool true)], args := [d1, d2] }
  | _ => none }
def fnNameSetScriptKeepsShapeAndSetRow : OpenClaim := { program := "qxb6601288a", sum := "9d3a61d5246e8004d0a059bb2bed96f66d33f96163aecfe794cdd8035f691836", func := "example.com/regentd/regentd/zzlaws_internal_state_b1.FnNameSetScriptKeepsShapeAndSet", spec := "fnNameSetScriptKeepsShapeAndSet", apart := false }
def FnNameSetScriptKeepsShapeAndSetSaid : Prop := fnNameSetScriptKeepsShapeAndSetRow.holds Try.pinned (OpenSpec.ofChange fnNameSetScriptKeepsShapeAndSetSpec)

/-- ITS FALSE NEIGHBOUR: 'it returns false'. Refute it at one input. -/
def fnNameSetScriptKeepsShapeAndSetWrong : ChangeSpec := { name := "fnNameSetScriptKeepsShapeAndSet", fn := fun _ => fun
  | [d1, d2] => { results := [.lit (.bool false)], args := [d1, d2] }
  | _ => none }
def FnNameSetScriptKeepsShapeAndSetWrongFalsely : Prop := fnNameSetScriptKeepsShapeAndSetRow.holds Try.pinned (OpenSpec.ofChange fnNameSetScriptKeepsShapeAndSetWrong)

/-- 'zzlaws_internal_state_b1.FnKeyIndexJoinRegroupsRuns': WHATEVER THE INPUT: true; the input reads as it did. -/
def fnKeyIndexJoinRegroupsRunsSpec : ChangeSpec := { name := "fnKeyIndexJoinRegroupsRuns", fn := fun _ => fun
  | [d1, d2] => { results := [.lit (.bool true)], args := [d1, d2] }
  | _ => none }
def fnKeyIndexJoinRegroupsRunsRow : OpenClaim := { program := "qxb6601288a", sum := "9d3a61d5246e8004d0a059bb2bed96f66d33f96163aecfe794cdd8035f691836", func := "example.com/regentd/regentd/zzlaws_internal_state_b1.FnKeyIndexJoinRegroupsRuns", spec := "fnKeyIndexJoinRegroupsRuns", apart := false }
def FnKeyIndexJoinRegroupsRunsSaid : Prop := fnKeyIndexJoinRegroupsRunsRow.holds Try.pinned (OpenSpec.ofChange fnKeyIndexJoinRegroupsRunsSpec)

/-- ITS FALSE NEIGHBOUR: 'it returns false'. Refute it at one input. -/
def fnKeyIndexJoinRegroupsRunsWrong : ChangeSpec := { name := "fnKeyIndexJoinRegroupsRuns", fn := fun _ => fun
  | [d1, d2] => { results := [.lit (.bool false)], args := [d1, d2] }
  | _ => none }
def FnKeyIndexJoinRegroupsRunsWrongFalsely : Prop := fnKeyIndexJoinRegroupsRunsRow.holds Try.pinned (OpenSpec.ofChange fnKeyIndexJoinRegroupsRunsWrong)

/-- 'zzlaws_internal_state_b1.FnKeyIndexJoinKeepsIndexOrdered': WHATEVER THE INPUT: true; the input reads as it did. -/
def fnKeyIndexJoinKeepsIndexOrderedSpec : ChangeSpec := { name := "fnKeyIndexJoinKeepsIndexOrdered", fn := fun _ => fun
  | [d1, d2] => { results := [.lit (.bool true)], args := [d1, d2] }
  | _ => none }
def fnKeyIndexJoinKeepsIndexOrderedRow : OpenClaim := { program := "qxb6601288a", sum := "9d3a61d5246e8004d0a059bb2bed96f66d33f96163aecfe794cdd8035f691836", func := "example.com/regentd/regentd/zzlaws_internal_state_b1.FnKeyIndexJoinKeepsIndexOrdered", spec := "fnKeyIndexJoinKeepsIndexOrdered", apart := false }
def FnKeyIndexJoinKeepsIndexOrderedSaid : Prop := fnKeyIndexJoinKeepsIndexOrderedRow.holds Try.pinned (OpenSpec.ofChange fnKeyIndexJoinKeepsIndexOrderedSpec)

/-- ITS FALSE NEIGHBOUR: 'it returns false'. Refute it at one input. -/
def fnKeyIndexJoinKeepsIndexOrderedWrong : ChangeSpec := { name := "fnKeyIndexJoinKeepsIndexOrdered", fn := fun _ => fun
  | [d1, d2] => { results := [.lit (.bool false)], args := [d1, d2] }
  | _ => none }
def FnKeyIndexJoinKeepsIndexOrderedWrongFalsely : Prop := fnKeyIndexJoinKeepsIndexOrderedRow.holds Try.pinned (OpenSpec.ofChange fnKeyIndexJoinKeepsIndexOrderedWrong)

end Rows
end Go.Proofs.Qxb6601288a
