/-
  No cell of these rows narrows 'for every input' (looked for: loops, veiled, ifaces, maps, wideKeys, modest, calm, conditions, laid).
  DERIVED. THE GIVEN ROWS OF THIS SEAT. 2 by the template 'for every input the law returns true; each argument reads behind the call as it read before'; 0 by the template 'total and deterministic' (their statements: Qxb6605194aTotals.lean).
  GIVEN WITH THE SEED: the statements are not yours to turn. If you find one false, say at which input.
  Laid BY PROGRAM, IN A SANDBOX (cutbox-rows.mjs): the forced cells as the released guide's own fill.sh prints them over the translation 28dc068bfb1bf9ae… (all of the seat's roots in one cut). By AI agents, Wed Nov 11 2026. No macro, syntax, notation, axiom, sorry.
-/
import Derived.Test.Qxb6605194aChecked
import GoSem.Claim
import GoSem.ClaimJoined
import GoSem.ClaimMapViews
import Derived.JoinedTies
import Derived.KernelRfl
namespace Go.Proofs.Qxb6605194a
/- THE CELL 'sum', in the pinned program and in every row, IS THE sha256 OF THE DUMP (.gsa) THAT Qxb6605194aProg.lean LOADS. Nothing in Lean hashes anything: it is a label: what it is worth is what the hold of that sum in a sandbox is worth. -/
noncomputable def Try.pinned : Pinned := { name := "qxb6605194a", sum := "28dc068bfb1bf9aedd8c28c9c295808eb9c2024b5adead46f986ee9b40ae6a7d", checked := Try.checked }
namespace Rows
def none {H : Type} : Left H := { results := [], args := [] }

/-- 'zzlaws_internal_bytefind_b1.FnIndexC0OrMatchesFourScans': WHATEVER THE INPUT: true; the input reads as it did. -/
def fnIndexC0OrMatchesFourScansSpec : ChangeSpec := { name := "fnIndexC0OrMatchesFourScans", fn := fun _ => fun
  | [d1, d2, d3, d4] => { results := [.lit (.bool true)], args := [d1, d2, d3, d4] }
  | _ => none }
def fnIndexC0OrMatchesFourScansRow : OpenClaim := { program := "qxb6605194a", sum := "28dc068bfb1bf9aedd8c28c9c295808eb9c2024b5adead46f986ee9b40ae6a7d", func := "example.com/tierledger/tierledger/zzlaws_internal_bytefind_b1.FnIndexC0OrMatchesFourScans", spec := "fnIndexC0OrMatchesFourScans", apart := false }
def FnIndexC0OrMatchesFourScansSaid : Prop := fnIndexC0OrMatchesFourScansRow.holds Try.pinned (OpenSpec.ofChange fnIndexC0OrMatchesFourScansSpec)

/-- ITS FALSE NEIGHBOUR: 'it returns false'. Refute it at one input. -/
def fnIndexC0OrMatchesFourScansWrong : ChangeSpec := { name := "fnIndexC0OrMatchesFourScans", fn := fun _ => fun
  | [d1, d2, d3, d4] => { results := [.lit (.bool false)], args := [d1, d2, d3, d4] }
  | _ => none }
def FnIndexC0OrMatchesFourScansWrongFalsely : Prop := fnIndexC0OrMatchesFourScansRow.holds Try.pinned (OpenSpec.ofChange fnIndexC0OrMatchesFourScansWrong)

/-- 'zzlaws_internal_bytefind_b1.FnIndexC0OrSkipsCleanPrefix': WHATEVER THE INPUT: true; the input reads as it did. -/
def fnIndexC0OrSkipsCleanPrefixSpec : ChangeSpec := { name := "fnIndexC0OrSkipsCleanPrefix", fn := fun _ => fun
  | [d1, d2, d3, d4, d5] => { results := [.lit (.bool true)], args := [d1, d2, d3, d4, d5] }
  | _ => none }
def fnIndexC0OrSkipsCleanPrefixRow : OpenClaim := { program := "qxb6605194a", sum := "28dc068bfb1bf9aedd8c28c9c295808eb9c2024b5adead46f986ee9b40ae6a7d", func := "example.com/tierledger/tierledger/zzlaws_internal_bytefind_b1.FnIndexC0OrSkipsCleanPrefix", spec := "fnIndexC0OrSkipsCleanPrefix", apart := false }
def FnIndexC0OrSkipsCleanPrefixSaid : Prop := fnIndexC0OrSkipsCleanPrefixRow.holds Try.pinned (OpenSpec.ofChange fnIndexC0OrSkipsCleanPrefixSpec)

/-- ITS FALSE NEIGHBOUR: 'it returns false'. Refute it at one input. -/
def fnIndexC0OrSkipsCleanPrefixWrong : ChangeSpec := { name := "fnIndexC0OrSkipsCleanPrefix", fn := fun _ => fun
  | [d1, d2, d3, d4, d5] => { results := [.lit (.bool false)], args := [d1, d2, d3, d4, d5] }
  | _ => none }
def FnIndexC0OrSkipsCleanPrefixWrongFalsely : Prop := fnIndexC0OrSkipsCleanPrefixRow.holds Try.pinned (OpenSpec.ofChange fnIndexC0OrSkipsCleanPrefixWrong)

end Rows
end Go.Proofs.Qxb6605194a
