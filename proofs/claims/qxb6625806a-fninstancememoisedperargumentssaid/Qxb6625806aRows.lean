/-
  No cell of these rows narrows 'for every input' (looked for: loops, veiled, ifaces, maps, wideKeys, modest, calm, conditions, laid).
  DERIVED. THE GIVEN ROWS OF THIS SEAT. 1 by the template 'for every input the law returns true; each argument reads behind the call as it read before'; 0 by the template 'total and deterministic' (their statements: Qxb6625806aTotals.lean).
  GIVEN WITH THE SEED: the statements are not yours to turn. If you find one false, say at which input.
  Laid BY PROGRAM, IN A SANDBOX (cutbox-rows.mjs): the forced cells as the released guide's own fill.sh prints them over the translation 08a23153d172d900… (all of the seat's roots in one cut). By AI agents, Wed Nov 11 2026. No macro, syntax, notation, axiom, sorry.
-/
import Derived.Test.Qxb6625806aChecked
import GoSem.Claim
import GoSem.ClaimJoined
import GoSem.ClaimMapViews
import Derived.JoinedTies
import Derived.KernelRfl
namespace Go.Proofs.Qxb6625806a
/- THE CELL 'sum', in the pinned program and in every row, IS THE sha256 OF THE DUMP (.gsa) THAT Qxb6625806aProg.lean LOADS. Nothing in Lean hashes anything: it is a label: what it is worth is what the hold of that sum in a sandbox is worth. -/
noncomputable def Try.pinned : Pinned := { name := "qxb6625806a", sum := "08a23153d172d9000e16aadb3cfdf0f35ffc7ec8e2555b3fee19d5c7d0963b03", checked := Try.checked }
namespace Rows
def none {H : Type} : Left H := { results := [], args := [] }

/-- 'zzlaws_internal_ir_b1.FnInstanceMemoisedPerArguments': WHATEVER THE INPUT: true; the input reads as it did. -/
def fnInstanceMemoisedPerArgumentsSpec : ChangeSpec := { name := "fnInstanceMemoisedPerArguments", fn := fun _ => fun
  | [d1, d2] => { results := [.lit (.bool true)], args := [d1, d2] }
  | _ => none }
def fnInstanceMemoisedPerArgumentsRow : OpenClaim := { program := "qxb6625806a", sum := "08a23153d172d9000e16aadb3cfdf0f35ffc7ec8e2555b3fee19d5c7d0963b03", func := "example.com/underpass/underpass/zzlaws_internal_ir_b1.FnInstanceMemoisedPerArguments", spec := "fnInstanceMemoisedPerArguments", apart := false }
def FnInstanceMemoisedPerArgumentsSaid : Prop := fnInstanceMemoisedPerArgumentsRow.holds Try.pinned (OpenSpec.ofChange fnInstanceMemoisedPerArgumentsSpec)

/-- ITS FALSE NEIGHBOUR: 'it returns false'. Refute it at one input. -/
def fnInstanceMemoisedPerArgumentsWrong : ChangeSpec := { name := "fnInstanceMemoisedPerArguments", fn := fun _ => fun
  | [d1, d2] => { results := [.lit (.bool false)], args := [d1, d2] }
  | _ => none }
def FnInstanceMemoisedPerArgumentsWrongFalsely : Prop := fnInstanceMemoisedPerArgumentsRow.holds Try.pinned (OpenSpec.ofChange fnInstanceMemoisedPerArgumentsWrong)

end Rows
end Go.Proofs.Qxb6625806a
