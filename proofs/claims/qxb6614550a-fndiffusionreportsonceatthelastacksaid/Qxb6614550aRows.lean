/-
  NARROWER THAN 'FOR EVERY INPUT', by the rows' own cells (each row's printed sentence says how): FnGeneralResultEachKindToItsOwnField: maps.
  DERIVED. THE GIVEN ROWS OF THIS SEAT. 3 by the template 'for every input the law returns true; each argument reads behind the call as it read before'; 0 by the template 'total and deterministic' (their statements: Qxb6614550aTotals.lean).
  GIVEN WITH THE SEED: the statements are not yours to turn. If you find one false, say at which input.
  Laid BY PROGRAM, IN A SANDBOX (cutbox-rows.mjs): the forced cells as the released guide's own fill.sh prints them over the translation 92d1ebf23c4e0be0… (all of the seat's roots in one cut). By AI agents, Wed Nov 11 2026. No macro, syntax, notation, axiom, sorry.
-/
import Derived.Test.Qxb6614550aChecked
import GoSem.Claim
import GoSem.ClaimJoined
import GoSem.ClaimMapViews
import Derived.JoinedTies
import Derived.KernelRfl
namespace Go.Proofs.Qxb6614550a
/- THE CELL 'sum', in the pinned program and in every row, IS THE sha256 OF THE DUMP (.gsa) THAT Qxb6614550aProg.lean LOADS. Nothing in Lean hashes anything: it is a label: what it is worth is what the hold of that sum in a sandbox is worth. -/
noncomputable def Try.pinned : Pinned := { name := "qxb6614550a", sum := "92d1ebf23c4e0be0b0806046957fc480595923521736e9210fe8502fa4f71f99", checked := Try.checked }
namespace Rows
def none {H : Type} : Left H := { results := [], args := [] }

/-- 'zzlaws_root_b1.FnDiffusionReportsOnceAtTheLastAck': WHATEVER THE INPUT: true; the input reads as it did. -/
def fnDiffusionReportsOnceAtTheLastAckSpec : ChangeSpec := { name := "fnDiffusionReportsOnceAtTheLastAck", fn := fun _ => fun
  | [d1, d2, d3] => { results := [.lit (.bool true)], args := [d1, d2, d3] }
  | _ => none }
def fnDiffusionReportsOnceAtTheLastAckRow : OpenClaim := { program := "qxb6614550a", sum := "92d1ebf23c4e0be0b0806046957fc480595923521736e9210fe8502fa4f71f99", func := "example.com/knotwatch/knotwatch/zzlaws_root_b1.FnDiffusionReportsOnceAtTheLastAck", spec := "fnDiffusionReportsOnceAtTheLastAck", unfollowed := true, recurses := true, apart := false }
def FnDiffusionReportsOnceAtTheLastAckSaid : Prop := fnDiffusionReportsOnceAtTheLastAckRow.holds Try.pinned (OpenSpec.ofChange fnDiffusionReportsOnceAtTheLastAckSpec)

/-- ITS FALSE NEIGHBOUR: 'it returns false'. Refute it at one input. -/
def fnDiffusionReportsOnceAtTheLastAckWrong : ChangeSpec := { name := "fnDiffusionReportsOnceAtTheLastAck", fn := fun _ => fun
  | [d1, d2, d3] => { results := [.lit (.bool false)], args := [d1, d2, d3] }
  | _ => none }
def FnDiffusionReportsOnceAtTheLastAckWrongFalsely : Prop := fnDiffusionReportsOnceAtTheLastAckRow.holds Try.pinned (OpenSpec.ofChange fnDiffusionReportsOnceAtTheLastAckWrong)

/-- 'zzlaws_root_b1.FnDiffusionDoubtedIsAcknowledgedInDoubt': WHATEVER THE INPUT: true; the input reads as it did. -/
def fnDiffusionDoubtedIsAcknowledgedInDoubtSpec : ChangeSpec := { name := "fnDiffusionDoubtedIsAcknowledgedInDoubt", fn := fun _ => fun
  | [d1, d2, d3, d4] => { results := [.lit (.bool true)], args := [d1, d2, d3, d4] }
  | _ => none }
def fnDiffusionDoubtedIsAcknowledgedInDoubtRow : OpenClaim := { program := "qxb6614550a", sum := "92d1ebf23c4e0be0b0806046957fc480595923521736e9210fe8502fa4f71f99", func := "example.com/knotwatch/knotwatch/zzlaws_root_b1.FnDiffusionDoubtedIsAcknowledgedInDoubt", spec := "fnDiffusionDoubtedIsAcknowledgedInDoubt", unfollowed := true, recurses := true, apart := false }
def FnDiffusionDoubtedIsAcknowledgedInDoubtSaid : Prop := fnDiffusionDoubtedIsAcknowledgedInDoubtRow.holds Try.pinned (OpenSpec.ofChange fnDiffusionDoubtedIsAcknowledgedInDoubtSpec)

/-- ITS FALSE NEIGHBOUR: 'it returns false'. Refute it at one input. -/
def fnDiffusionDoubtedIsAcknowledgedInDoubtWrong : ChangeSpec := { name := "fnDiffusionDoubtedIsAcknowledgedInDoubt", fn := fun _ => fun
  | [d1, d2, d3, d4] => { results := [.lit (.bool false)], args := [d1, d2, d3, d4] }
  | _ => none }
def FnDiffusionDoubtedIsAcknowledgedInDoubtWrongFalsely : Prop := fnDiffusionDoubtedIsAcknowledgedInDoubtRow.holds Try.pinned (OpenSpec.ofChange fnDiffusionDoubtedIsAcknowledgedInDoubtWrong)

/-- 'zzlaws_root_b1.FnGeneralResultEachKindToItsOwnField': WHATEVER THE INPUT: true; the input reads as it did. -/
def fnGeneralResultEachKindToItsOwnFieldSpec : ChangeSpec := { name := "fnGeneralResultEachKindToItsOwnField", fn := fun _ => fun
  | [d1, d2, d3, d4, d5, d6] => { results := [.lit (.bool true)], args := [d1, d2, d3, d4, d5, d6] }
  | _ => none }
def fnGeneralResultEachKindToItsOwnFieldRow : OpenClaim := { program := "qxb6614550a", sum := "92d1ebf23c4e0be0b0806046957fc480595923521736e9210fe8502fa4f71f99", func := "example.com/knotwatch/knotwatch/zzlaws_root_b1.FnGeneralResultEachKindToItsOwnField", spec := "fnGeneralResultEachKindToItsOwnField", maps := true, apart := false }
def FnGeneralResultEachKindToItsOwnFieldSaid : Prop := fnGeneralResultEachKindToItsOwnFieldRow.holds Try.pinned (OpenSpec.ofChange fnGeneralResultEachKindToItsOwnFieldSpec)

/-- ITS FALSE NEIGHBOUR: 'it returns false'. Refute it at one input. -/
def fnGeneralResultEachKindToItsOwnFieldWrong : ChangeSpec := { name := "fnGeneralResultEachKindToItsOwnField", fn := fun _ => fun
  | [d1, d2, d3, d4, d5, d6] => { results := [.lit (.bool false)], args := [d1, d2, d3, d4, d5, d6] }
  | _ => none }
def FnGeneralResultEachKindToItsOwnFieldWrongFalsely : Prop := fnGeneralResultEachKindToItsOwnFieldRow.holds Try.pinned (OpenSpec.ofChange fnGeneralResultEachKindToItsOwnFieldWrong)

end Rows
end Go.Proofs.Qxb6614550a
