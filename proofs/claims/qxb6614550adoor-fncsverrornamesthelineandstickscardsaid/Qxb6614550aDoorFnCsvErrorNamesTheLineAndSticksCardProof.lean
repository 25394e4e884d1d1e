/-
  Seat b6614550aD: the tied card of FnCsvErrorNamesTheLineAndSticks, closed by the kit's builder out of the proved row and the given tie.
-/
import Derived.Test.Qxb6614550aDoorProof
namespace Go.Proofs.Qxb6614550aDoor.fnCsvErrorNamesTheLineAndSticks
open Go

theorem params_plain : ∀ (j : Nat) (t : TypeId), Tryd.f5.params[j]? = some t → t = 9 ∨ t = 3 := by
  intro j t ht
  rw [Tryd.params5] at ht
  rcases j with _ | _ | _ | _ | _ | _ | _ | j <;> simp at ht <;> first | exact .inl ht.symm | exact .inr ht.symm

/-- The statement. -/
theorem proved : Rows.FnCsvErrorNamesTheLineAndSticksCardSaid :=
  Claim7.holds_tied_plain_at .later [] [.handle] true Rows.fnCsvErrorNamesTheLineAndSticksCard.stood.harness true
    over (fun _ h => by cases h) (by kernel_rfl) (fun _ h => by cases h) fnCsvErrorNamesTheLineAndSticks_row_tie rfl ⟨rfl, rfl⟩ (by kernel_rfl) rfl
    (fun f fn hf hfn => by
      obtain rfl : f = 5 := Option.some.inj ((show Tryd.prog.funcNamed Rows.fnCsvErrorNamesTheLineAndSticksRow.func = some 5 by kernel_rfl).symm.trans hf) |>.symm
      obtain rfl : fn = Tryd.f5 := (Option.some.inj (Tryd.func5.symm.trans hfn)).symm
      exact ⟨by kernel_rfl, fun j t ht => by
        rcases params_plain j t ht with rfl | rfl
        · exact (show Tryd.prog.wantsStandIn 9 = false by kernel_rfl)
        · exact (show Tryd.prog.wantsStandIn 3 = false by kernel_rfl)⟩)
    (by kernel_rfl)
#print axioms proved
end Go.Proofs.Qxb6614550aDoor.fnCsvErrorNamesTheLineAndSticks
