/-
  No cell of these rows narrows 'for every input' (looked for: loops, veiled, ifaces, maps, wideKeys, modest, calm, conditions, laid).
  DERIVED. THE GIVEN ROWS OF THIS SEAT. 2 by the template 'for every input the law returns true; each argument reads behind the call as it read before'; 0 by the template 'total and deterministic' (their statements: Qxb6601095aTotals.lean).
  GIVEN WITH THE SEED: the statements are not yours to turn. If you find one false, say at which input.
  Laid BY PROGRAM, IN A SANDBOX (cutbox-rows.mjs): the forced cells as the released guide's own fill.sh prints them over the translation 590da3c5b849f629… (all of the seat's roots in one cut). By AI agents, Wed Nov 11 2026. No macro, syntax, notation, axiom, sorry.
-/
import Derived.Test.Qxb6601095aChecked
import GoSem.Claim
import GoSem.ClaimJoined
import GoSem.ClaimMapViews
import Derived.JoinedTies
import Derived.KernelRfl
namespace Go.Proofs.Qxb6601095a
/- THE CELL 'sum', in the pinned program and in every row, IS THE sha256 OF THE DUMP (.gsa) THAT Qxb6601095aProg.lean LOADS. Nothing in Lean hashes anything: it is a label: what it is worth is what the hold of that sum in a sandbox is worth. -/
noncomputable def Try.pinned : Pinned := { name := "qxb6601095a", sum := "590da3c5b849f629b8798d99a79009a2caa04cb5df84d86dbdb57f8c99338be4", checked := Try.checked }
namespace Rows
def none {H : Type} : Left H := { results := [], args := [] }

/-- 'zzlaws_pkg_plan_b1.FnIsOneOfSplitsOverJoin': WHATEVER THE INPUT: true; the input reads as it did. -/
def fnIsOneOfSplitsOverJoinSpec : ChangeSpec := { name := "fnIsOneOfSplitsOverJoin", fn := fun _ => fun
  | [d1, d2, d3] => { results := [.lit (.bool true)], args := [d1, d2, d3] }
  | _ => none }
def fnIsOneOfSplitsOverJoinRow : OpenClaim := { program := "qxb6601095a", sum := "590da3c5b849f629b8798d99a79009a2caa04cb5df84d86dbdb57f8c99338be4", func := "example.com/vestline/vestline/zzlaws_pkg_plan_b1.FnIsOneOfSplitsOverJoin", spec := "fnIsOneOfSplitsOverJoin", apart := false }
def FnIsOneOfSplitsOverJoinSaid : Prop := fnIsOneOfSplitsOverJoinRow.holds Try.pinned (OpenSpec.ofChange fnIsOneOfSplitsOverJoinSpec)

/-- ITS FALSE NEIGHBOUR: 'it returns false'. Refute it at one input. -/
def fnIsOneOfSplitsOverJoinWrong : ChangeSpec := { name := "fnIsOneOfSplitsOverJoin", fn := fun _ => fun
  | [d1, d2, d3] => { results := [.lit (.bool false)], args := [d1, d2, d3] }
  | _ => none }
def FnIsOneOfSplitsOverJoinWrongFalsely : Prop := fnIsOneOfSplitsOverJoinRow.holds Try.pinned (OpenSpec.ofChange fnIsOneOfSplitsOverJoinWrong)

/-- 'zzlaws_pkg_plan_b1.FnIsOneOfAcceptsEachRefusesStranger': WHATEVER THE INPUT: true; the input reads as it did. -/
def fnIsOneOfAcceptsEachRefusesStrangerSpec : ChangeSpec := { name := "fnIsOneOfAcceptsEachRefusesStranger", fn := fun _ => fun
  | [d1, d2] => { results := [.lit (.bool true)], args := [d1, d2] }
  | _ => none }
def fnIsOneOfAcceptsEachRefusesStrangerRow : OpenClaim := { program := "qxb6601095a", sum := "590da3c5b849f629b8798d99a79009a2caa04cb5df84d86dbdb57f8c99338be4", func := "example.com/vestline/vestline/zzlaws_pkg_plan_b1.FnIsOneOfAcceptsEachRefusesStranger", spec := "fnIsOneOfAcceptsEachRefusesStranger", apart := false }
def FnIsOneOfAcceptsEachRefusesStrangerSaid : Prop := fnIsOneOfAcceptsEachRefusesStrangerRow.holds Try.pinned (OpenSpec.ofChange fnIsOneOfAcceptsEachRefusesStrangerSpec)

/-- ITS FALSE NEIGHBOUR: 'it returns false'. Refute it at one input. -/
def fnIsOneOfAcceptsEachRefusesStrangerWrong : ChangeSpec := { name := "fnIsOneOfAcceptsEachRefusesStranger", fn := fun _ => fun
  | [d1, d2] => { results := [.lit (.bool false)], args := [d1, d2] }
  | _ => none }
def FnIsOneOfAcceptsEachRefusesStrangerWrongFalsely : Prop := fnIsOneOfAcceptsEachRefusesStrangerRow.holds Try.pinned (OpenSpec.ofChange fnIsOneOfAcceptsEachRefusesStrangerWrong)

end Rows
end Go.Proofs.Qxb6601095a
