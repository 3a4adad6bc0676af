/-
  No cell of these rows narrows 'for every input' (looked for: loops, veiled, ifaces, maps, wideKeys, modest, calm, conditions, laid).
  DERIVED. THE GIVEN ROWS OF THIS SEAT. 2 by the template 'for every input the law returns true; each argument reads behind the call as it read before'; 0 by the template 'total and deterministic' (their statements: Qxb6626086aTotals.lean).
  GIVEN WITH THE SEED: the statements are not yours to turn. If you find one false, say at which input.
  Laid BY PROGRAM, IN A SANDBOX (cutbox-rows.mjs): the forced cells as the released guide's own fill.sh prints them over the translation c7ed8d3c2620ba74… (all of the seat's roots in one cut). By AI agents, Wed Nov 11 2026. No macro, syntax, notation, axiom, sorry.
-/
import Derived.Test.Qxb6626086aChecked
import GoSem.Claim
import GoSem.ClaimJoined
import GoSem.ClaimMapViews
import Derived.JoinedTies
import Derived.KernelRfl
namespace Go.Proofs.Qxb6626086a
/- THE CELL 'sum', in the pinned program and in every row, IS THE sha256 OF THE DUMP (.gsa) THAT Qxb6626086aProg.lean LOADS. Nothing in Lean hashes anything: it is a label: what it is worth is what the hold of that sum in a sandbox is worth. -/
noncomputable def Try.pinned : Pinned := { name := "qxb6626086a", sum := "c7ed8d3c2620ba748fe95ec1acd7bc210bdab44c659dd67db63ff70426d7ed85", checked := Try.checked }
namespace Rows
def none {H : Type} : Left H := { results := [], args := [] }

/-- 'zzlaws_internal_hold_b1.FnLastOfHintNeverChangesAnswer': WHATEVER THE INPUT: true; the input reads as it did. -/
def fnLastOfHintNeverChangesAnswerSpec : ChangeSpec := { name := "fnLastOfHintNeverChangesAnswer", fn := fun _ => fun
  | [d1, d2, d3, d4] => { results := [.lit (.bool true)], args := [d1, d2, d3, d4] }
  | _ => none }
def fnLastOfHintNeverChangesAnswerRow : OpenClaim := { program := "qxb6626086a", sum := "c7ed8d3c2620ba748fe95ec1acd7bc210bdab44c659dd67db63ff70426d7ed85", func := "example.com/respite/respite/zzlaws_internal_hold_b1.FnLastOfHintNeverChangesAnswer", spec := "fnLastOfHintNeverChangesAnswer", plainKeys := false, apart := false }
def FnLastOfHintNeverChangesAnswerSaid : Prop := fnLastOfHintNeverChangesAnswerRow.holds Try.pinned (OpenSpec.ofChange fnLastOfHintNeverChangesAnswerSpec)

/-- ITS FALSE NEIGHBOUR: 'it returns false'. Refute it at one input. -/
def fnLastOfHintNeverChangesAnswerWrong : ChangeSpec := { name := "fnLastOfHintNeverChangesAnswer", fn := fun _ => fun
  | [d1, d2, d3, d4] => { results := [.lit (.bool false)], args := [d1, d2, d3, d4] }
  | _ => none }
def FnLastOfHintNeverChangesAnswerWrongFalsely : Prop := fnLastOfHintNeverChangesAnswerRow.holds Try.pinned (OpenSpec.ofChange fnLastOfHintNeverChangesAnswerWrong)

/-- 'zzlaws_internal_hold_b1.FnLastOfScriptFindsOnlyItsOwn': WHATEVER THE INPUT: true; the input reads as it did. -/
def fnLastOfScriptFindsOnlyItsOwnSpec : ChangeSpec := { name := "fnLastOfScriptFindsOnlyItsOwn", fn := fun _ => fun
  | [d1, d2] => { results := [.lit (.bool true)], args := [d1, d2] }
  | _ => none }
def fnLastOfScriptFindsOnlyItsOwnRow : OpenClaim := { program := "qxb6626086a", sum := "c7ed8d3c2620ba748fe95ec1acd7bc210bdab44c659dd67db63ff70426d7ed85", func := "example.com/respite/respite/zzlaws_internal_hold_b1.FnLastOfScriptFindsOnlyItsOwn", spec := "fnLastOfScriptFindsOnlyItsOwn", plainKeys := false, apart := false }
def FnLastOfScriptFindsOnlyItsOwnSaid : Prop := fnLastOfScriptFindsOnlyItsOwnRow.holds Try.pinned (OpenSpec.ofChange fnLastOfScriptFindsOnlyItsOwnSpec)

/-- ITS FALSE NEIGHBOUR: 'it returns false'. Refute it at one input. -/
def fnLastOfScriptFindsOnlyItsOwnWrong : ChangeSpec := { name := "fnLastOfScriptFindsOnlyItsOwn", fn := fun _ => fun
  | [d1, d2] => { results := [.lit (.bool false)], args := [d1, d2] }
  | _ => none }
def FnLastOfScriptFindsOnlyItsOwnWrongFalsely : Prop := fnLastOfScriptFindsOnlyItsOwnRow.holds Try.pinned (OpenSpec.ofChange fnLastOfScriptFindsOnlyItsOwnWrong)

end Rows
end Go.Proofs.Qxb6626086a
