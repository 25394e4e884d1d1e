/-
  No cell of these rows narrows 'for every input' (looked for: loops, veiled, ifaces, maps, wideKeys, modest, calm, conditions, laid).
  DERIVED. THE GIVEN ROWS OF THIS SEAT. 2 by the template 'for every input the law returns true; each argument reads behind the call as it read before'; 0 by the template 'total and deterministic' (their statements: Qxb6614197aTotals.lean).
  GIVEN WITH THE SEED: the statements are not yours to turn. If you find one false, say at which input.
  Laid BY PROGRAM, IN A SANDBOX (cutbox-rows.mjs): the forced cells as the released guide's own fill.sh prints them over the translation 518d9c1a0ef3a335… (all of the seat's roots in one cut). By AI agents, Wed Nov 11 2026. No macro, syntax, notation, axiom, sorry.
-/
import Derived.Test.Qxb6614197aChecked
import GoSem.Claim
import GoSem.ClaimJoined
import GoSem.ClaimMapViews
import Derived.JoinedTies
import Derived.KernelRfl
namespace Go.Proofs.Qxb6614197a
/- THE CELL 'sum', in the pinned program and in every row, IS THE sha256 OF THE DUMP (.gsa) THAT Qxb6614197aProg.lean LOADS. Nothing in Lean hashes anything: it is a label: what it is worth is what the hold of that sum in a sandbox is worth. -/
noncomputable def Try.pinned : Pinned := { name := "qxb6614197a", sum := "518d9c1a0ef3a335979382223938f75fb04dfed19cc26a0187437140a9f5e4cd", checked := Try.checked }
namespace Rows
def none {H : Type} : Left H := { results := [], args := [] }

/-- 'zzlaws_internal_history_b1.FnOrderWithoutCommutesAndKeepsTheRest': WHATEVER THE INPUT: true; the input reads as it did. -/
def fnOrderWithoutCommutesAndKeepsTheRestSpec : ChangeSpec := { name := "fnOrderWithoutCommutesAndKeepsTheRest", fn := fun _ => fun
  | [d1, d2, d3, d4, d5, d6, d7] => { results := [.lit (.bool true)], args := [d1, d2, d3, d4, d5, d6, d7] }
  | _ => none }
def fnOrderWithoutCommutesAndKeepsTheRestRow : OpenClaim := { program := "qxb6614197a", sum := "518d9c1a0ef3a335979382223938f75fb04dfed19cc26a0187437140a9f5e4cd", func := "example.com/deferlog/deferlog/zzlaws_internal_history_b1.FnOrderWithoutCommutesAndKeepsTheRest", spec := "fnOrderWithoutCommutesAndKeepsTheRest", unfollowed := true, recurses := true, apart := false }
def FnOrderWithoutCommutesAndKeepsTheRestSaid : Prop := fnOrderWithoutCommutesAndKeepsTheRestRow.holds Try.pinned (OpenSpec.ofChange fnOrderWithoutCommutesAndKeepsTheRestSpec)

/-- ITS FALSE NEIGHBOUR: 'it returns false'. Refute it at one input. -/
def fnOrderWithoutCommutesAndKeepsTheRestWrong : ChangeSpec := { name := "fnOrderWithoutCommutesAndKeepsTheRest", fn := fun _ => fun
  | [d1, d2, d3, d4, d5, d6, d7] => { results := [.lit (.bool false)], args := [d1, d2, d3, d4, d5, d6, d7] }
  | _ => none }
def FnOrderWithoutCommutesAndKeepsTheRestWrongFalsely : Prop := fnOrderWithoutCommutesAndKeepsTheRestRow.holds Try.pinned (OpenSpec.ofChange fnOrderWithoutCommutesAndKeepsTheRestWrong)

/-- 'zzlaws_internal_history_b1.FnOrderWithoutIsIdempotentAndDropsJustX': WHATEVER THE INPUT: true; the input reads as it did. -/
def fnOrderWithoutIsIdempotentAndDropsJustXSpec : ChangeSpec := { name := "fnOrderWithoutIsIdempotentAndDropsJustX", fn := fun _ => fun
  | [d1, d2, d3, d4, d5, d6] => { results := [.lit (.bool true)], args := [d1, d2, d3, d4, d5, d6] }
  | _ => none }
def fnOrderWithoutIsIdempotentAndDropsJustXRow : OpenClaim := { program := "qxb6614197a", sum := "518d9c1a0ef3a335979382223938f75fb04dfed19cc26a0187437140a9f5e4cd", func := "example.com/deferlog/deferlog/zzlaws_internal_history_b1.FnOrderWithoutIsIdempotentAndDropsJustX", spec := "fnOrderWithoutIsIdempotentAndDropsJustX", unfollowed := true, recurses := true, apart := false }
def FnOrderWithoutIsIdempotentAndDropsJustXSaid : Prop := fnOrderWithoutIsIdempotentAndDropsJustXRow.holds Try.pinned (OpenSpec.ofChange fnOrderWithoutIsIdempotentAndDropsJustXSpec)

/-- ITS FALSE NEIGHBOUR: 'it returns false'. Refute it at one input. -/
def fnOrderWithoutIsIdempotentAndDropsJustXWrong : ChangeSpec := { name := "fnOrderWithoutIsIdempotentAndDropsJustX", fn := fun _ => fun
  | [d1, d2, d3, d4, d5, d6] => { results := [.lit (.bool false)], args := [d1, d2, d3, d4, d5, d6] }
  | _ => none }
def FnOrderWithoutIsIdempotentAndDropsJustXWrongFalsely : Prop := fnOrderWithoutIsIdempotentAndDropsJustXRow.holds Try.pinned (OpenSpec.ofChange fnOrderWithoutIsIdempotentAndDropsJustXWrong)

end Rows
end Go.Proofs.Qxb6614197a
