/-
  No cell of these rows narrows 'for every input' (looked for: loops, veiled, ifaces, maps, wideKeys, modest, calm, conditions, laid).
  DERIVED. THE GIVEN ROWS OF THIS SEAT. 2 by the template 'for every input the law returns true; each argument reads behind the call as it read before'; 0 by the template 'total and deterministic' (their statements: Qxb6601081aTotals.lean).
  GIVEN WITH THE SEED: the statements are not yours to turn. If you find one false, say at which input.
  Laid BY PROGRAM, IN A SANDBOX (cutbox-rows.mjs): the forced cells as the released guide's own fill.sh prints them over the translation fd7966e3a79b576c… (all of the seat's roots in one cut). By AI agents, Wed Nov 11 2026. No macro, syntax, notation, axiom, sorry.
-/
import Derived.Test.Qxb6601081aChecked
import GoSem.Claim
import GoSem.ClaimJoined
import GoSem.ClaimMapViews
import Derived.JoinedTies
import Derived.KernelRfl
namespace Go.Proofs.Qxb6601081a
/- THE CELL 'sum', in the pinned program and in every row, IS THE sha256 OF THE DUMP (.gsa) THAT Qxb6601081aProg.lean LOADS. Nothing in Lean hashes anything: it is a label: what it is worth is what the hold of that sum in a sandbox is worth. -/
noncomputable def Try.pinned : Pinned := { name := "qxb6601081a", sum := "fd7966e3a79b576c27cd4a37de1958dd02815acade4b64a7528c18bec623dded", checked := Try.checked }
namespace Rows
def none {H : Type} : Left H := { results := [], args := [] }

/-- 'zzlaws_internal_report_b1.FnSeparateReusedRowsJoinCells': WHATEVER THE INPUT: true; the input reads as it did. -/
def fnSeparateReusedRowsJoinCellsSpec : ChangeSpec := { name := "fnSeparateReusedRowsJoinCells", fn := fun _ => fun
  | [d1, d2] => { results := [.lit (.bool true)], args := [d1, d2] }
  | _ => none }
def fnSeparateReusedRowsJoinCellsRow : OpenClaim := { program := "qxb6601081a", sum := "fd7966e3a79b576c27cd4a37de1958dd02815acade4b64a7528c18bec623dded", func := "example.com/xunjia/xunjia/zzlaws_internal_report_b1.FnSeparateReusedRowsJoinCells", spec := "fnSeparateReusedRowsJoinCells", apart := false }
def FnSeparateReusedRowsJoinCellsSaid : Prop := fnSeparateReusedRowsJoinCellsRow.holds Try.pinned (OpenSpec.ofChange fnSeparateReusedRowsJoinCellsSpec)

/-- ITS FALSE NEIGHBOUR: 'it returns false'. Refute it at one input. -/
def fnSeparateReusedRowsJoinCellsWrong : ChangeSpec := { name := "fnSeparateReusedRowsJoinCells", fn := fun _ => fun
  | [d1, d2] => { results := [.lit (.bool false)], args := [d1, d2] }
  | _ => none }
def FnSeparateReusedRowsJoinCellsWrongFalsely : Prop := fnSeparateReusedRowsJoinCellsRow.holds Try.pinned (OpenSpec.ofChange fnSeparateReusedRowsJoinCellsWrong)

/-- 'zzlaws_internal_report_b1.FnSeparateRowSplitsBack': WHATEVER THE INPUT: true; the input reads as it did. -/
def fnSeparateRowSplitsBackSpec : ChangeSpec := { name := "fnSeparateRowSplitsBack", fn := fun _ => fun
  | [d] => { results := [.lit (.bool true)], args := [d] }
  | _ => none }
def fnSeparateRowSplitsBackRow : OpenClaim := { program := "qxb6601081a", sum := "fd7966e3a79b576c27cd4a37de1958dd02815acade4b64a7528c18bec623dded", func := "example.com/xunjia/xunjia/zzlaws_internal_report_b1.FnSeparateRowSplitsBack", spec := "fnSeparateRowSplitsBack", apart := false }
def FnSeparateRowSplitsBackSaid : Prop := fnSeparateRowSplitsBackRow.holds Try.pinned (OpenSpec.ofChange fnSeparateRowSplitsBackSpec)

/-- ITS FALSE NEIGHBOUR: 'it returns false'. Refute it at one input. -/
def fnSeparateRowSplitsBackWrong : ChangeSpec := { name := "fnSeparateRowSplitsBack", fn := fun _ => fun
  | [d] => { results := [.lit (.bool false)], args := [d] }
  | _ => none }
def FnSeparateRowSplitsBackWrongFalsely : Prop := fnSeparateRowSplitsBackRow.holds Try.pinned (OpenSpec.ofChange fnSeparateRowSplitsBackWrong)

end Rows
end Go.Proofs.Qxb6601081a
