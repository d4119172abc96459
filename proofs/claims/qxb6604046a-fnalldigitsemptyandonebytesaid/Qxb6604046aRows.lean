/-
  No cell of these rows narrows 'for every input' (looked for: loops, veiled, ifaces, maps, wideKeys, modest, calm, conditions, laid).
  DERIVED. THE GIVEN ROWS OF THIS SEAT. 1 by the template 'for every input the law returns true; each argument reads behind the call as it read before'; 0 by the template 'total and deterministic' (their statements: Qxb6604046aTotals.lean).
  GIVEN WITH THE SEED: the statements are not yours to turn. If you find one false, say at which input.
  Laid BY PROGRAM, IN A SANDBOX (cutbox-rows.mjs): the forced cells as the released guide's own fill.sh prints them over the translation bdc8e3ab6e5c44b8… (all of the seat's roots in one cut). By AI agents, Wed Nov 11 2026. No macro, syntax, notation, axiom, sorry.
-/
import Derived.Test.Qxb6604046aChecked
import GoSem.Claim
import GoSem.ClaimJoined
import GoSem.ClaimMapViews
import Derived.JoinedTies
import Derived.KernelRfl
namespace Go.Proofs.Qxb6604046a
/- THE CELL 'sum', in the pinned program and in every row, IS THE sha256 OF THE DUMP (.gsa) THAT Qxb6604046aProg.lean LOADS. Nothing in Lean hashes anything: it is a label: what it is worth is what the hold of that sum in a sandbox is worth. -/
noncomputable def Try.pinned : Pinned := { name := "qxb6604046a", sum := "bdc8e3ab6e5c44b89aef6a40baf2dfb223841058fe00f3ffedc0c183dc22bd7f", checked := Try.checked }
namespace Rows
def none {H : Type} : Left H := { results := [], args := [] }

/-- 'zzlaws_internal_num_b1.FnAllDigitsEmptyAndOneByte': WHATEVER THE INPUT: true; the input reads as it did. -/
def fnAllDigitsEmptyAndOneByteSpec : ChangeSpec := { name := "fnAllDigitsEmptyAndOneByte", fn := fun _ => fun
  | [d] => { results := [.lit (.bool true)], args := [d] }
  | _ => none }
def fnAllDigitsEmptyAndOneByteRow : OpenClaim := { program := "qxb6604046a", sum := "bdc8e3ab6e5c44b89aef6a40baf2dfb223841058fe00f3ffedc0c183dc22bd7f", func := "example.com/tranchery/tranchery/zzlaws_internal_num_b1.FnAllDigitsEmptyAndOneByte", spec := "fnAllDigitsEmptyAndOneByte", apart := false }
def FnAllDigitsEmptyAndOneByteSaid : Prop := fnAllDigitsEmptyAndOneByteRow.holds Try.pinned (OpenSpec.ofChange fnAllDigitsEmptyAndOneByteSpec)

/-- ITS FALSE NEIGHBOUR: 'it returns false'. Refute it at one input. -/
def fnAllDigitsEmptyAndOneByteWrong : ChangeSpec := { name := "fnAllDigitsEmptyAndOneByte", fn := fun _ => fun
  | [d] => { results := [.lit (.bool false)], args := [d] }
  | _ => none }
def FnAllDigitsEmptyAndOneByteWrongFalsely : Prop := fnAllDigitsEmptyAndOneByteRow.holds Try.pinned (OpenSpec.ofChange fnAllDigitsEmptyAndOneByteWrong)

end Rows
end Go.Proofs.Qxb6604046a
