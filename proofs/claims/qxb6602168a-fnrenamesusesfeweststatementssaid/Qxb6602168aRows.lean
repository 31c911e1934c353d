/-
  No cell of these rows narrows 'for every input' (looked for: loops, veiled, ifaces, maps, wideKeys, modest, calm, conditions, laid).
  DERIVED. THE GIVEN ROWS OF THIS SEAT. 2 by the template 'for every input the law returns true; each argument reads behind the call as it read before'; 0 by the template 'total and deterministic' (their statements: Qxb6602168aTotals.lean).
  GIVEN WITH THE SEED: the statements are not yours to turn. If you find one false, say at which input.
  Laid BY PROGRAM, IN A SANDBOX (cutbox-rows.mjs): the forced cells as the released guide's own fill.sh prints them over the translation def1ca0a92344bbf… (all of the seat's roots in one cut). By AI agents, Wed Nov 11 2026. No macro, syntax, notation, axiom, sorry.
-/
import Derived.Test.Qxb6602168aChecked
import GoSem.Claim
import GoSem.ClaimJoined
import GoSem.ClaimMapViews
import Derived.JoinedTies
import Derived.KernelRfl
namespace Go.Proofs.Qxb6602168a
/- THE CELL 'sum', in the pinned program and in every row, IS THE sha256 OF THE DUMP (.gsa) THAT Qxb6602168aProg.lean LOADS. Nothing in Lean hashes anything: it is a label: what it is worth is what the hold of that sum in a sandbox is worth. -/
noncomputable def Try.pinned : Pinned := { name := "qxb6602168a", sum := "def1ca0a92344bbf826b9fa58b9ad50256936cf17b7d382120c208737a773b47", checked := Try.checked }
namespace Rows
def none {H : Type} : Left H := { results := [], args := [] }

/-- 'zzlaws_restore_b1.FnRenamesKeepEveryMoveInOrderWithinLimit': WHATEVER THE INPUT: true; the input reads as it did. -/
def fnRenamesKeepEveryMoveInOrderWithinLimitSpec : ChangeSpec := { name := "fnRenamesKeepEveryMoveInOrderWithinLimit", fn := fun _ => fun
  | [d1, d2] => { results := [.lit (.bool true)], args := [d1, d2] }
  | _ => none }
def fnRenamesKeepEveryMoveInOrderWithinLimitRow : OpenClaim := { program := "qxb6602168a", sum := "def1ca0a92344bbf826b9fa58b9ad50256936cf17b7d382120c208737a773b47", func := "example.com/stillwater/stillwater/zzlaws_restore_b1.FnRenamesKeepEveryMoveInOrderWithinLimit", spec := "fnRenamesKeepEveryMoveInOrderWithinLimit", apart := false }
def FnRenamesKeepEveryMoveInOrderWithinLimitSaid : Prop := fnRenamesKeepEveryMoveInOrderWithinLimitRow.holds Try.pinned (OpenSpec.ofChange fnRenamesKeepEveryMoveInOrderWithinLimitSpec)

/-- ITS FALSE NEIGHBOUR: 'it returns false'. Refute it at one input. -/
def fnRenamesKeepEveryMoveInOrderWithinLimitWrong : ChangeSpec := { name := "fnRenamesKeepEveryMoveInOrderWithinLimit", fn := fun _ => fun
  | [d1, d2] => { results := [.lit (.bool false)], args := [d1, d2] }
  | _ => none }
def FnRenamesKeepEveryMoveInOrderWithinLimitWrongFalsely : Prop := fnRenamesKeepEveryMoveInOrderWithinLimitRow.holds Try.pinned (OpenSpec.ofChange fnRenamesKeepEveryMoveInOrderWithinLimitWrong)

/-- 'zzlaws_restore_b1.FnRenamesUsesFewestStatements': WHATEVER THE INPUT: true; the input reads as it did. -/
def fnRenamesUsesFewestStatementsSpec : ChangeSpec := { name := "fnRenamesUsesFewestStatements", fn := fun _ => fun
  | [d1, d2] => { results := [.lit (.bool true)], args := [d1, d2] }
  | _ => none }
def fnRenamesUsesFewestStatementsRow : OpenClaim := { program := "qxb6602168a", sum := "def1ca0a92344bbf826b9fa58b9ad50256936cf17b7d382120c208737a773b47", func := "example.com/stillwater/stillwater/zzlaws_restore_b1.FnRenamesUsesFewestStatements", spec := "fnRenamesUsesFewestStatements", apart := false }
def FnRenamesUsesFewestStatementsSaid : Prop := fnRenamesUsesFewestStatementsRow.holds Try.pinned (OpenSpec.ofChange fnRenamesUsesFewestStatementsSpec)

/-- ITS FALSE NEIGHBOUR: 'it returns false'. Refute it at one input. -/
def fnRenamesUsesFewestStatementsWrong : ChangeSpec := { name := "fnRenamesUsesFewestStatements", fn := fun _ => fun
  | [d1, d2] => { results := [.lit (.bool false)], args := [d1, d2] }
  | _ => none }
def FnRenamesUsesFewestStatementsWrongFalsely : Prop := fnRenamesUsesFewestStatementsRow.holds Try.pinned (OpenSpec.ofChange fnRenamesUsesFewestStatementsWrong)

end Rows
end Go.Proofs.Qxb6602168a
