/-
  No cell of these rows narrows 'for every input' (looked for: loops, veiled, ifaces, maps, wideKeys, modest, calm, conditions, laid).
  DERIVED. THE GIVEN ROWS OF THIS SEAT. 2 by the template 'for every input the law returns true; each argument reads behind the call as it read before'; 0 by the template 'total and deterministic' (their statements: Qxb6614446aTotals.lean).
  GIVEN WITH THE SEED: the statements are not yours to turn. If you find one false, say at which input.
  Laid BY PROGRAM, IN A SANDBOX (cutbox-rows.mjs): the forced cells as the released guide's own fill.sh prints them over the translation e63cf83e4aa30064… (all of the seat's roots in one cut). By AI agents, Wed Nov 11 2026. No macro, syntax, notation, axiom, sorry.
-/
import Derived.Test.Qxb6614446aChecked
import GoSem.Claim
import GoSem.ClaimJoined
import GoSem.ClaimMapViews
import Derived.JoinedTies
import Derived.KernelRfl
namespace Go.Proofs.Qxb6614446a
/- THE CELL 'sum', in the pinned program and in every row, IS THE sha256 OF THE DUMP (.gsa) THAT Qxb6614446aProg.lean LOADS. Nothing in Lean hashes anything: it is a label: what it is worth is what the hold of that sum in a sandbox is worth. -/
noncomputable def Try.pinned : Pinned := { name := "qxb6614446a", sum := "e63cf83e4aa30064a7e84f878bc456bb3dd5cf585fee3c40eacd3de730e3ae14", checked := Try.checked }
namespace Rows
def none {H : Type} : Left H := { results := [], args := [] }

/-- 'zzlaws_rules_b1.FnDayRangeSplitsAtAnyCut': WHATEVER THE INPUT: true; the input reads as it did. -/
def fnDayRangeSplitsAtAnyCutSpec : ChangeSpec := { name := "fnDayRangeSplitsAtAnyCut", fn := fun _ => fun
  | [d1, d2, d3, d4] => { results := [.lit (.bool true)], args := [d1, d2, d3, d4] }
  | _ => none }
def fnDayRangeSplitsAtAnyCutRow : OpenClaim := { program := "qxb6614446a", sum := "e63cf83e4aa30064a7e84f878bc456bb3dd5cf585fee3c40eacd3de730e3ae14", func := "example.com/hedgerow/hedgerow/zzlaws_rules_b1.FnDayRangeSplitsAtAnyCut", spec := "fnDayRangeSplitsAtAnyCut", apart := false }
def FnDayRangeSplitsAtAnyCutSaid : Prop := fnDayRangeSplitsAtAnyCutRow.holds Try.pinned (OpenSpec.ofChange fnDayRangeSplitsAtAnyCutSpec)

/-- ITS FALSE NEIGHBOUR: 'it returns false'. Refute it at one input. -/
def fnDayRangeSplitsAtAnyCutWrong : ChangeSpec := { name := "fnDayRangeSplitsAtAnyCut", fn := fun _ => fun
  | [d1, d2, d3, d4] => { results := [.lit (.bool false)], args := [d1, d2, d3, d4] }
  | _ => none }
def FnDayRangeSplitsAtAnyCutWrongFalsely : Prop := fnDayRangeSplitsAtAnyCutRow.holds Try.pinned (OpenSpec.ofChange fnDayRangeSplitsAtAnyCutWrong)

/-- 'zzlaws_rules_b1.FnDayRangeAndItsComplementsHoldEveryDayOnce': WHATEVER THE INPUT: true; the input reads as it did. -/
def fnDayRangeAndItsComplementsHoldEveryDayOnceSpec : ChangeSpec := { name := "fnDayRangeAndItsComplementsHoldEveryDayOnce", fn := fun _ => fun
  | [d1, d2, d3] => { results := [.lit (.bool true)], args := [d1, d2, d3] }
  | _ => none }
def fnDayRangeAndItsComplementsHoldEveryDayOnceRow : OpenClaim := { program := "qxb6614446a", sum := "e63cf83e4aa30064a7e84f878bc456bb3dd5cf585fee3c40eacd3de730e3ae14", func := "example.com/hedgerow/hedgerow/zzlaws_rules_b1.FnDayRangeAndItsComplementsHoldEveryDayOnce", spec := "fnDayRangeAndItsComplementsHoldEveryDayOnce", apart := false }
def FnDayRangeAndItsComplementsHoldEveryDayOnceSaid : Prop := fnDayRangeAndItsComplementsHoldEveryDayOnceRow.holds Try.pinned (OpenSpec.ofChange fnDayRangeAndItsComplementsHoldEveryDayOnceSpec)

/-- ITS FALSE NEIGHBOUR: 'it returns false'. Refute it at one input. -/
def fnDayRangeAndItsComplementsHoldEveryDayOnceWrong : ChangeSpec := { name := "fnDayRangeAndItsComplementsHoldEveryDayOnce", fn := fun _ => fun
  | [d1, d2, d3] => { results := [.lit (.bool false)], args := [d1, d2, d3] }
  | _ => none }
def FnDayRangeAndItsComplementsHoldEveryDayOnceWrongFalsely : Prop := fnDayRangeAndItsComplementsHoldEveryDayOnceRow.holds Try.pinned (OpenSpec.ofChange fnDayRangeAndItsComplementsHoldEveryDayOnceWrong)

end Rows
end Go.Proofs.Qxb6614446a
