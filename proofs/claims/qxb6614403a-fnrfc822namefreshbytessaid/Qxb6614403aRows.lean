/-
  No cell of these rows narrows 'for every input' (looked for: loops, veiled, ifaces, maps, wideKeys, modest, calm, conditions, laid).
  DERIVED. THE GIVEN ROWS OF THIS SEAT. 3 by the template 'for every input the law returns true; each argument reads behind the call as it read before'; 0 by the template 'total and deterministic' (their statements: Qxb6614403aTotals.lean).
  GIVEN WITH THE SEED: the statements are not yours to turn. If you find one false, say at which input.
  Laid BY PROGRAM, IN A SANDBOX (cutbox-rows.mjs): the forced cells as the released guide's own fill.sh prints them over the translation 63ae48f6af338d11… (all of the seat's roots in one cut). By AI agents, Wed Nov 11 2026. No macro, syntax, notation, axiom, sorry.
-/
import Derived.Test.Qxb6614403aChecked
import GoSem.Claim
import GoSem.ClaimJoined
import GoSem.ClaimMapViews
import Derived.JoinedTies
import Derived.KernelRfl
namespace Go.Proofs.Qxb6614403a
/- THE CELL 'sum', in the pinned program and in every row, IS THE sha256 OF THE DUMP (.gsa) THAT Qxb6614403aProg.lean LOADS. Nothing in Lean hashes anything: it is a label: what it is worth is what the hold of that sum in a sandbox is worth. -/
noncomputable def Try.pinned : Pinned := { name := "qxb6614403a", sum := "63ae48f6af338d115f1727cb665ae9a09623fbd6923341fdaeb53ab69ccdea8b", checked := Try.checked }
namespace Rows
def none {H : Type} : Left H := { results := [], args := [] }

/-- 'zzlaws_pkg_skd_b1.FnKeyValidAtSplit': WHATEVER THE INPUT: true; the input reads as it did. -/
def fnKeyValidAtSplitSpec : ChangeSpec := { name := "fnKeyValidAtSplit", fn := fun _ => fun
  | [d1, d2, d3, d4] => { results := [.lit (.bool true)], args := [d1, d2, d3, d4] }
  | _ => none }
def fnKeyValidAtSplitRow : OpenClaim := { program := "qxb6614403a", sum := "63ae48f6af338d115f1727cb665ae9a09623fbd6923341fdaeb53ab69ccdea8b", func := "example.com/keywarden/keywarden/zzlaws_pkg_skd_b1.FnKeyValidAtSplit", spec := "fnKeyValidAtSplit", apart := false }
def FnKeyValidAtSplitSaid : Prop := fnKeyValidAtSplitRow.holds Try.pinned (OpenSpec.ofChange fnKeyValidAtSplitSpec)

/-- ITS FALSE NEIGHBOUR: 'it returns false'. Refute it at one input. -/
def fnKeyValidAtSplitWrong : ChangeSpec := { name := "fnKeyValidAtSplit", fn := fun _ => fun
  | [d1, d2, d3, d4] => { results := [.lit (.bool false)], args := [d1, d2, d3, d4] }
  | _ => none }
def FnKeyValidAtSplitWrongFalsely : Prop := fnKeyValidAtSplitRow.holds Try.pinned (OpenSpec.ofChange fnKeyValidAtSplitWrong)

/-- 'zzlaws_pkg_skd_b1.FnRfc822NameFreshBytes': WHATEVER THE INPUT: true; the input reads as it did. -/
def fnRfc822NameFreshBytesSpec : ChangeSpec := { name := "fnRfc822NameFreshBytes", fn := fun _ => fun
  | [d] => { results := [.lit (.bool true)], args := [d] }
  | _ => none }
def fnRfc822NameFreshBytesRow : OpenClaim := { program := "qxb6614403a", sum := "63ae48f6af338d115f1727cb665ae9a09623fbd6923341fdaeb53ab69ccdea8b", func := "example.com/keywarden/keywarden/zzlaws_pkg_skd_b1.FnRfc822NameFreshBytes", spec := "fnRfc822NameFreshBytes", apart := false }
def FnRfc822NameFreshBytesSaid : Prop := fnRfc822NameFreshBytesRow.holds Try.pinned (OpenSpec.ofChange fnRfc822NameFreshBytesSpec)

/-- ITS FALSE NEIGHBOUR: 'it returns false'. Refute it at one input. -/
def fnRfc822NameFreshBytesWrong : ChangeSpec := { name := "fnRfc822NameFreshBytes", fn := fun _ => fun
  | [d] => { results := [.lit (.bool false)], args := [d] }
  | _ => none }
def FnRfc822NameFreshBytesWrongFalsely : Prop := fnRfc822NameFreshBytesRow.holds Try.pinned (OpenSpec.ofChange fnRfc822NameFreshBytesWrong)

/-- 'zzlaws_pkg_skd_b1.FnRefusalUnwrapOneLayer': WHATEVER THE INPUT: true; the input reads as it did. -/
def fnRefusalUnwrapOneLayerSpec : ChangeSpec := { name := "fnRefusalUnwrapOneLayer", fn := fun _ => fun
  | [d1, d2, d3, d4, d5] => { results := [.lit (.bool true)], args := [d1, d2, d3, d4, d5] }
  | _ => none }
def fnRefusalUnwrapOneLayerRow : OpenClaim := { program := "qxb6614403a", sum := "63ae48f6af338d115f1727cb665ae9a09623fbd6923341fdaeb53ab69ccdea8b", func := "example.com/keywarden/keywarden/zzlaws_pkg_skd_b1.FnRefusalUnwrapOneLayer", spec := "fnRefusalUnwrapOneLayer", apart := false }
def FnRefusalUnwrapOneLayerSaid : Prop := fnRefusalUnwrapOneLayerRow.holds Try.pinned (OpenSpec.ofChange fnRefusalUnwrapOneLayerSpec)

/-- ITS FALSE NEIGHBOUR: 'it returns false'. Refute it at one input. -/
def fnRefusalUnwrapOneLayerWrong : ChangeSpec := { name := "fnRefusalUnwrapOneLayer", fn := fun _ => fun
  | [d1, d2, d3, d4, d5] => { results := [.lit (.bool false)], args := [d1, d2, d3, d4, d5] }
  | _ => none }
def FnRefusalUnwrapOneLayerWrongFalsely : Prop := fnRefusalUnwrapOneLayerRow.holds Try.pinned (OpenSpec.ofChange fnRefusalUnwrapOneLayerWrong)

end Rows
end Go.Proofs.Qxb6614403a
