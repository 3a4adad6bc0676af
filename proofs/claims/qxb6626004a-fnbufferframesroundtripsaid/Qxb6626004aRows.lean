/-
  No cell of these rows narrows 'for every input' (looked for: loops, veiled, ifaces, maps, wideKeys, modest, calm, conditions, laid).
  DERIVED. THE GIVEN ROWS OF THIS SEAT. 2 by the template 'for every input the law returns true; each argument reads behind the call as it read before'; 0 by the template 'total and deterministic' (their statements: Qxb6626004aTotals.lean).
  GIVEN WITH THE SEED: the statements are not yours to turn. If you find one false, say at which input.
  Laid BY PROGRAM, IN A SANDBOX (cutbox-rows.mjs): the forced cells as the released guide's own fill.sh prints them over the translation ce104832fcb698cf… (all of the seat's roots in one cut). By AI agents, Wed Nov 11 2026. No macro, syntax, notation, axiom, sorry.
-/
import Derived.Test.Qxb6626004aChecked
import GoSem.Claim
import GoSem.ClaimJoined
import GoSem.ClaimMapViews
import Derived.JoinedTies
import Derived.KernelRfl
namespace Go.Proofs.Qxb6626004a
/- THE CELL 'sum', in the pinned program and in every row, IS THE sha256 OF THE DUMP (.gsa) THAT Qxb6626004aProg.lean LOADS. Nothing in Lean hashes anything: it is a label: what it is worth is what the hold of that sum in a sandbox is worth. -/
noncomputable def Try.pinned : Pinned := { name := "qxb6626004a", sum := "ce104832fcb698cf51b26f54c57328364d247f65e79d6c91ee932e8c67836a48", checked := Try.checked }
namespace Rows
def none {H : Type} : Left H := { results := [], args := [] }

/-- 'zzlaws_pkg_wire_b1.FnBufferFramesRoundTrip': WHATEVER THE INPUT: true; the input reads as it did. -/
def fnBufferFramesRoundTripSpec : ChangeSpec := { name := "fnBufferFramesRoundTrip", fn := fun _ => fun
  | [d1, d2, d3] => { results := [.lit (.bool true)], args := [d1, d2, d3] }
  | _ => none }
def fnBufferFramesRoundTripRow : OpenClaim := { program := "qxb6626004a", sum := "ce104832fcb698cf51b26f54c57328364d247f65e79d6c91ee932e8c67836a48", func := "example.com/quorumtree/quorumtree/zzlaws_pkg_wire_b1.FnBufferFramesRoundTrip", spec := "fnBufferFramesRoundTrip", named := ["encoding/binary.BigEndian"], apart := false }
def FnBufferFramesRoundTripSaid : Prop := fnBufferFramesRoundTripRow.holds Try.pinned (OpenSpec.ofChange fnBufferFramesRoundTripSpec)

/-- ITS FALSE NEIGHBOUR: 'it returns false'. Refute it at one input. -/
def fnBufferFramesRoundTripWrong : ChangeSpec := { name := "fnBufferFramesRoundTrip", fn := fun _ => fun
  | [d1, d2, d3] => { results := [.lit (.bool false)], args := [d1, d2, d3] }
  | _ => none }
def FnBufferFramesRoundTripWrongFalsely : Prop := fnBufferFramesRoundTripRow.holds Try.pinned (OpenSpec.ofChange fnBufferFramesRoundTripWrong)

/-- 'zzlaws_pkg_wire_b1.FnBufferInjectiveAndSized': WHATEVER THE INPUT: true; the input reads as it did. -/
def fnBufferInjectiveAndSizedSpec : ChangeSpec := { name := "fnBufferInjectiveAndSized", fn := fun _ => fun
  | [d1, d2, d3] => { results := [.lit (.bool true)], args := [d1, d2, d3] }
  | _ => none }
def fnBufferInjectiveAndSizedRow : OpenClaim := { program := "qxb6626004a", sum := "ce104832fcb698cf51b26f54c57328364d247f65e79d6c91ee932e8c67836a48", func := "example.com/quorumtree/quorumtree/zzlaws_pkg_wire_b1.FnBufferInjectiveAndSized", spec := "fnBufferInjectiveAndSized", named := ["encoding/binary.BigEndian"], apart := false }
def FnBufferInjectiveAndSizedSaid : Prop := fnBufferInjectiveAndSizedRow.holds Try.pinned (OpenSpec.ofChange fnBufferInjectiveAndSizedSpec)

/-- ITS FALSE NEIGHBOUR: 'it returns false'. Refute it at one input. -/
def fnBufferInjectiveAndSizedWrong : ChangeSpec := { name := "fnBufferInjectiveAndSized", fn := fun _ => fun
  | [d1, d2, d3] => { results := [.lit (.bool false)], args := [d1, d2, d3] }
  | _ => none }
def FnBufferInjectiveAndSizedWrongFalsely : Prop := fnBufferInjectiveAndSizedRow.holds Try.pinned (OpenSpec.ofChange fnBufferInjectiveAndSizedWrong)

end Rows
end Go.Proofs.Qxb6626004a
