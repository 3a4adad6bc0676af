/-
  No cell of these rows narrows 'for every input' (looked for: loops, veiled, ifaces, maps, wideKeys, modest, calm, conditions, laid).
  DERIVED. THE GIVEN ROWS OF THIS SEAT. 2 by the template 'for every input the law returns true; each argument reads behind the call as it read before'; 0 by the template 'total and deterministic' (their statements: Qxb6630631aTotals.lean).
  GIVEN WITH THE SEED: the statements are not yours to turn. If you find one false, say at which input.
  Laid BY PROGRAM, IN A SANDBOX (cutbox-rows.mjs): the forced cells as the released guide's own fill.sh prints them over the translation 17b44a8eee1bf5cb… (all of the seat's roots in one cut). By AI agents, Wed Nov 11 2026. No macro, syntax, notation, axiom, sorry.
-/
import Derived.Test.Qxb6630631aChecked
import GoSem.Claim
import GoSem.ClaimJoined
import GoSem.ClaimMapViews
import Derived.JoinedTies
import Derived.KernelRfl
namespace Go.Proofs.Qxb6630631a
/- THE CELL 'sum', in the pinned program and in every row, IS THE sha256 OF THE DUMP (.gsa) THAT Qxb6630631aProg.lean LOADS. Nothing in Lean hashes anything: it is a label: what it is worth is what the hold of that sum in a sandbox is worth. -/
noncomputable def Try.pinned : Pinned := { name := "qxb6630631a", sum := "17b44a8eee1bf5cb012662fba005285589faa5dc2c4dd196d40dd18bb07c21fd", checked := Try.checked }
namespace Rows
def none {H : Type} : Left H := { results := [], args := [] }

/-- 'zzlaws_discount_b1.FnCodeKeyCutAndFold': WHATEVER THE INPUT: true; the input reads as it did. -/
def fnCodeKeyCutAndFoldSpec : ChangeSpec := { name := "fnCodeKeyCutAndFold", fn := fun _ => fun
  | [d1, d2] => { results := [.lit (.bool true)], args := [d1, d2] }
  | _ => none }
def fnCodeKeyCutAndFoldRow : OpenClaim := { program := "qxb6630631a", sum := "17b44a8eee1bf5cb012662fba005285589faa5dc2c4dd196d40dd18bb07c21fd", func := "example.com/couponloom/couponloom/zzlaws_discount_b1.FnCodeKeyCutAndFold", spec := "fnCodeKeyCutAndFold", apart := false }
def FnCodeKeyCutAndFoldSaid : Prop := fnCodeKeyCutAndFoldRow.holds Try.pinned (OpenSpec.ofChange fnCodeKeyCutAndFoldSpec)

/-- ITS FALSE NEIGHBOUR: 'it returns false'. Refute it at one input. -/
def fnCodeKeyCutAndFoldWrong : ChangeSpec := { name := "fnCodeKeyCutAndFold", fn := fun _ => fun
  | [d1, d2] => { results := [.lit (.bool false)], args := [d1, d2] }
  | _ => none }
def FnCodeKeyCutAndFoldWrongFalsely : Prop := fnCodeKeyCutAndFoldRow.holds Try.pinned (OpenSpec.ofChange fnCodeKeyCutAndFoldWrong)

/-- 'zzlaws_discount_b1.FnCodeKeyMatchesExactlyASCIIFold': WHATEVER THE INPUT: true; the input reads as it did. -/
def fnCodeKeyMatchesExactlyASCIIFoldSpec : ChangeSpec := { name := "fnCodeKeyMatchesExactlyASCIIFold", fn := fun _ => fun
  | [d1, d2] => { results := [.lit (.bool true)], args := [d1, d2] }
  | _ => none }
def fnCodeKeyMatchesExactlyASCIIFoldRow : OpenClaim := { program := "qxb6630631a", sum := "17b44a8eee1bf5cb012662fba005285589faa5dc2c4dd196d40dd18bb07c21fd", func := "example.com/couponloom/couponloom/zzlaws_discount_b1.FnCodeKeyMatchesExactlyASCIIFold", spec := "fnCodeKeyMatchesExactlyASCIIFold", apart := false }
def FnCodeKeyMatchesExactlyASCIIFoldSaid : Prop := fnCodeKeyMatchesExactlyASCIIFoldRow.holds Try.pinned (OpenSpec.ofChange fnCodeKeyMatchesExactlyASCIIFoldSpec)

/-- ITS FALSE NEIGHBOUR: 'it returns false'. Refute it at one input. -/
def fnCodeKeyMatchesExactlyASCIIFoldWrong : ChangeSpec := { name := "fnCodeKeyMatchesExactlyASCIIFold", fn := fun _ => fun
  | [d1, d2] => { results := [.lit (.bool false)], args := [d1, d2] }
  | _ => none }
def FnCodeKeyMatchesExactlyASCIIFoldWrongFalsely : Prop := fnCodeKeyMatchesExactlyASCIIFoldRow.holds Try.pinned (OpenSpec.ofChange fnCodeKeyMatchesExactlyASCIIFoldWrong)

end Rows
end Go.Proofs.Qxb6630631a
