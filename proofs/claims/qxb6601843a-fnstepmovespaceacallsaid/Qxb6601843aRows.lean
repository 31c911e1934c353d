/-
  No cell of these rows narrows 'for every input' (looked for: loops, veiled, ifaces, maps, wideKeys, modest, calm, conditions, laid).
  DERIVED. THE GIVEN ROWS OF THIS SEAT. 6 by the template 'for every input the law returns true; each argument reads behind the call as it read before'; 0 by the template 'total and deterministic' (their statements: Qxb6601843aTotals.lean).
  GIVEN WITH THE SEED: the statements are not yours to turn. If you find one false, say at which input.
  Laid BY PROGRAM, IN A SANDBOX (cutbox-rows.mjs): the forced cells as the released guide's own fill.sh prints them over the translation be3749b89b2daab6… (all of the seat's roots in one cut). By AI agents, Wed Nov 11 2026. No macro, syntax, notation, axiom, sorry.
-/
import Derived.Test.Qxb6601843aChecked
import GoSem.Claim
import GoSem.ClaimJoined
import GoSem.ClaimMapViews
import Derived.JoinedTies
import Derived.KernelRfl
namespace Go.Proofs.Qxb6601843a
/- THE CELL 'sum', in the pinned program and in every row, IS THE sha256 OF THE DUMP (.gsa) THAT Qxb6601843aProg.lean LOADS. Nothing in Lean hashes anything: it is a label: what it is worth is what the hold of that sum in a sandbox is worth. -/
noncomputable def Try.pinned : Pinned := { name := "qxb6601843a", sum := "be3749b89b2daab630d9a53f0f12cd218167499b5187f9aefe1ef0e56bcc142b", checked := Try.checked }
namespace Rows
def none {H : Type} : Left H := { results := [], args := [] }

/-- 'zzlaws_prices_b1.FnStepMergesByRank': WHATEVER THE INPUT: true; the input reads as it did. -/
def fnStepMergesByRankSpec : ChangeSpec := { name := "fnStepMergesByRank", fn := fun _ => fun
  | [d1, d2, d3, d4] => { results := [.lit (.bool true)], args := [d1, d2, d3, d4] }
  | _ => none }
def fnStepMergesByRankRow : OpenClaim := { program := "qxb6601843a", sum := "be3749b89b2daab630d9a53f0f12cd218167499b5187f9aefe1ef0e56bcc142b", func := "example.com/portwright/portwright/zzlaws_prices_b1.FnStepMergesByRank", spec := "fnStepMergesByRank", apart := false }
def FnStepMergesByRankSaid : Prop := fnStepMergesByRankRow.holds Try.pinned (OpenSpec.ofChange fnStepMergesByRankSpec)

/-- ITS FALSE NEIGHBOUR: 'it returns false'. Refute it at one input. -/
def fnStepMergesByRankWrong : ChangeSpec := { name := "fnStepMergesByRank", fn := fun _ => fun
  | [d1, d2, d3, d4] => { results := [.lit (.bool false)], args := [d1, d2, d3, d4] }
  | _ => none }
def FnStepMergesByRankWrongFalsely : Prop := fnStepMergesByRankRow.holds Try.pinned (OpenSpec.ofChange fnStepMergesByRankWrong)

/-- 'zzlaws_prices_b1.FnStepMovesPaceACall': WHATEVER THE INPUT: true; the input reads as it did. -/
def fnStepMovesPaceACallSpec : ChangeSpec := { name := "fnStepMovesPaceACall", fn := fun _ => fun
  | [d1, d2, d3, d4] => { results := [.lit (.bool true)], args := [d1, d2, d3, d4] }
  | _ => none }
def fnStepMovesPaceACallRow : OpenClaim := { program := "qxb6601843a", sum := "be3749b89b2daab630d9a53f0f12cd218167499b5187f9aefe1ef0e56bcc142b", func := "example.com/portwright/portwright/zzlaws_prices_b1.FnStepMovesPaceACall", spec := "fnStepMovesPaceACall", apart := false }
def FnStepMovesPaceACallSaid : Prop := fnStepMovesPaceACallRow.holds Try.pinned (OpenSpec.ofChange fnStepMovesPaceACallSpec)

/-- ITS FALSE NEIGHBOUR: 'it returns false'. Refute it at one input. -/
def fnStepMovesPaceACallWrong : ChangeSpec := { name := "fnStepMovesPaceACall", fn := fun _ => fun
  | [d1, d2, d3, d4] => { results := [.lit (.bool false)], args := [d1, d2, d3, d4] }
  | _ => none }
def FnStepMovesPaceACallWrongFalsely : Prop := fnStepMovesPaceACallRow.holds Try.pinned (OpenSpec.ofChange fnStepMovesPaceACallWrong)

/-- 'zzlaws_prices_b1.FnTakeWhole': WHATEVER THE INPUT: true; the input reads as it did. -/
def fnTakeWholeSpec : ChangeSpec := { name := "fnTakeWhole", fn := fun _ => fun
  | [d1, d2] => { results := [.lit (.bool true)], args := [d1, d2] }
  | _ => none }
def fnTakeWholeRow : OpenClaim := { program := "qxb6601843a", sum := "be3749b89b2daab630d9a53f0f12cd218167499b5187f9aefe1ef0e56bcc142b", func := "example.com/portwright/portwright/zzlaws_prices_b1.FnTakeWhole", spec := "fnTakeWhole", apart := false }
def FnTakeWholeSaid : Prop := fnTakeWholeRow.holds Try.pinned (OpenSpec.ofChange fnTakeWholeSpec)

/-- ITS FALSE NEIGHBOUR: 'it returns false'. Refute it at one input. -/
def fnTakeWholeWrong : ChangeSpec := { name := "fnTakeWhole", fn := fun _ => fun
  | [d1, d2] => { results := [.lit (.bool false)], args := [d1, d2] }
  | _ => none }
def FnTakeWholeWrongFalsely : Prop := fnTakeWholeRow.holds Try.pinned (OpenSpec.ofChange fnTakeWholeWrong)

/-- 'zzlaws_prices_b1.FnTakeDrainsLastFirst': WHATEVER THE INPUT: true; the input reads as it did. -/
def fnTakeDrainsLastFirstSpec : ChangeSpec := { name := "fnTakeDrainsLastFirst", fn := fun _ => fun
  | [d1, d2] => { results := [.lit (.bool true)], args := [d1, d2] }
  | _ => none }
def fnTakeDrainsLastFirstRow : OpenClaim := { program := "qxb6601843a", sum := "be3749b89b2daab630d9a53f0f12cd218167499b5187f9aefe1ef0e56bcc142b", func := "example.com/portwright/portwright/zzlaws_prices_b1.FnTakeDrainsLastFirst", spec := "fnTakeDrainsLastFirst", apart := false }
def FnTakeDrainsLastFirstSaid : Prop := fnTakeDrainsLastFirstRow.holds Try.pinned (OpenSpec.ofChange fnTakeDrainsLastFirstSpec)

/-- ITS FALSE NEIGHBOUR: 'it returns false'. Refute it at one input. -/
def fnTakeDrainsLastFirstWrong : ChangeSpec := { name := "fnTakeDrainsLastFirst", fn := fun _ => fun
  | [d1, d2] => { results := [.lit (.bool false)], args := [d1, d2] }
  | _ => none }
def FnTakeDrainsLastFirstWrongFalsely : Prop := fnTakeDrainsLastFirstRow.holds Try.pinned (OpenSpec.ofChange fnTakeDrainsLastFirstWrong)

/-- 'zzlaws_prices_b1.FnPushWhole': WHATEVER THE INPUT: true; the input reads as it did. -/
def fnPushWholeSpec : ChangeSpec := { name := "fnPushWhole", fn := fun _ => fun
  | [d1, d2, d3, d4, d5] => { results := [.lit (.bool true)], args := [d1, d2, d3, d4, d5] }
  | _ => none }
def fnPushWholeRow : OpenClaim := { program := "qxb6601843a", sum := "be3749b89b2daab630d9a53f0f12cd218167499b5187f9aefe1ef0e56bcc142b", func := "example.com/portwright/portwright/zzlaws_prices_b1.FnPushWhole", spec := "fnPushWhole", apart := false }
def FnPushWholeSaid : Prop := fnPushWholeRow.holds Try.pinned (OpenSpec.ofChange fnPushWholeSpec)

/-- ITS FALSE NEIGHBOUR: 'it returns false'. Refute it at one input. -/
def fnPushWholeWrong : ChangeSpec := { name := "fnPushWhole", fn := fun _ => fun
  | [d1, d2, d3, d4, d5] => { results := [.lit (.bool false)], args := [d1, d2, d3, d4, d5] }
  | _ => none }
def FnPushWholeWrongFalsely : Prop := fnPushWholeRow.holds Try.pinned (OpenSpec.ofChange fnPushWholeWrong)

/-- 'zzlaws_prices_b1.FnPushScriptKeepsMergeBits': WHATEVER THE INPUT: true; the input reads as it did. -/
def fnPushScriptKeepsMergeBitsSpec : ChangeSpec := { name := "fnPushScriptKeepsMergeBits", fn := fun _ => fun
  | [d] => { results := [.lit (.bool true)], args := [d] }
  | _ => none }
def fnPushScriptKeepsMergeBitsRow : OpenClaim := { program := "qxb6601843a", sum := "be3749b89b2daab630d9a53f0f12cd218167499b5187f9aefe1ef0e56bcc142b", func := "example.com/portwright/portwright/zzlaws_prices_b1.FnPushScriptKeepsMergeBits", spec := "fnPushScriptKeepsMergeBits", apart := false }
def FnPushScriptKeepsMergeBitsSaid : Prop := fnPushScriptKeepsMergeBitsRow.holds Try.pinned (OpenSpec.ofChange fnPushScriptKeepsMergeBitsSpec)

/-- ITS FALSE NEIGHBOUR: 'it returns false'. Refute it at one input. -/
def fnPushScriptKeepsMergeBitsWrong : ChangeSpec := { name := "fnPushScriptKeepsMergeBits", fn := fun _ => fun
  | [d] => { results := [.lit (.bool false)], args := [d] }
  | _ => none }
def FnPushScriptKeepsMergeBitsWrongFalsely : Prop := fnPushScriptKeepsMergeBitsRow.holds Try.pinned (OpenSpec.ofChange fnPushScriptKeepsMergeBitsWrong)

end Rows
end Go.Proofs.Qxb6601843a
