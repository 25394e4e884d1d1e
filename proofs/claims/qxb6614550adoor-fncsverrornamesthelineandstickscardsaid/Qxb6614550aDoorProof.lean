/-
  Seat b6614550aD: the row of FnCsvErrorNamesTheLineAndSticks proved (after the kit's worked example 'Toyas'), and the tied card closed by the kit's builder.
-/
import Derived.Test.Qxb6614550aDoorRows
import Derived.Test.Qxb6614550aDoorTie
import Derived.Test.Qxb6614550aDoorCards
import Derived.Test.Qxb6614550aDoorLaw
import Derived.ProofKit
import Derived.OpenShut
import Derived.ShutString
import Derived.ChangeOld
import Derived.Below
import Derived.ChangeSame
import Derived.ChangeVars
import Derived.JoinedOf
import Derived.RowKit
import Derived.RowKitTokens
import Derived.LaidLaws
import Derived.LaidHandle
import Derived.Stop.Joined
import Derived.SevenTiedAt
namespace Go.Proofs.Qxb6614550aDoor.fnCsvErrorNamesTheLineAndSticks
open Go.ChangeShapes Go.WideShapes Go.ChangeAt Go.RowKit
open Go.ChangeMaps (open_string shut_string)
set_option linter.unusedVariables false

theorem own : ownKnob Tryd.prog.godebug = none := by kernel_rfl
theorem et : Tryd.prog.globalNamed "errors.errorType" = some 1 := by kernel_rfl
theorem size : Tryd.prog.types.size = 119 := by kernel_rfl
theorem oneRow : ((List.range 119).filter fun t => Tryd.prog.rowNamed t [101, 114, 114, 111, 114]) = [36] := by kernel_rfl

/-- What the condition gives the walk: the variable's one cell. -/
theorem handle_of_laid {W : World} (h : laidMetH Tryd.prog Rows.fnCsvErrorNamesTheLineAndSticksRow.laid W) : W.cell? ⟨1, 0, none⟩ = some hand := by
  have h' : laidMet Tryd.prog [] W ∧ handlesMet Tryd.prog Rows.fnCsvErrorNamesTheLineAndSticksRow.laid W := h
  obtain ⟨name, u, ty, e1, e2, e3, e4, e5⟩ := h'.2 _ (List.mem_singleton.2 rfl)
  have en : name = [101, 114, 114, 111, 114] := (Option.some.inj e1).symm
  subst en
  have e2' : some u = some 76 := e2.symm.trans (by kernel_rfl)
  obtain rfl := Option.some.inj e2'
  have hm : ty ∈ (List.range 119).filter fun t => Tryd.prog.rowNamed t [101, 114, 114, 111, 114] := List.mem_filter.2 ⟨List.mem_range.2 (by rw [← size]; exact e3), e4⟩
  rw [oneRow] at hm
  obtain rfl := List.mem_singleton.1 hm
  have hh : typeHandle Tryd.prog 36 = .pointer (some ⟨2, 36, none⟩) := by kernel_rfl
  rw [hh] at e5
  simpa [hand] using World.var?_cell et e5 0

/-- A world that meets the condition: the settled one, the variable's cell laid. -/
def laidIn (P : Program) (os : Os) : World :=
  let w0 := World.holding P os ⟨#[], #[], []⟩
  { w0 with heap := w0.heap.modify 1 fun
      | .cells _ t frozen => .cells #[.iface 76 (.agg #[.pointer (some ⟨2, 36, none⟩)])] t frozen
      | o => o }
theorem laidIn_met (os : Os) (args : Array Value) : laidMetH Tryd.prog Rows.fnCsvErrorNamesTheLineAndSticksRow.laid ((laidIn Tryd.prog os).forCall (fun _ _ => 0) ⟨#[], args, []⟩).memory :=
  laidMetH_of_parts (laidMet_nil _ _) (by kernel_rfl)

set_option maxHeartbeats 1600000 in
set_option maxRecDepth 100000 in
theorem walk (a0 a1 : ByteArray) (a2 a3 a4 : Int) (a5 : ByteArray) (a6 : Int) (w0 : a0.size ≤ maxLen) (w1 : a1.size ≤ maxLen) (w5 : a5.size ≤ maxLen) (w : World) (hg : w.cell? ⟨1, 0, none⟩ = some hand) :
    Calls Tryd.prog 5 #[.string a0, .string a1, .int .i64 a2, .int .i64 a3, .int .i64 a4, .string a5, .int .i64 a6] w fun e w' => e = .returned (.bool true) ∧ Below w.heap.size w w' := by
  unfold maxLen at w0 w1 w5
  by_cases hsum : a0.size + a1.size + a5.size ≤ 1048576
  · have hd : decide (a0.size + a1.size + a5.size ≤ 1048576) = true := by rw [decide_eq_true_eq]; exact hsum
    by_cases h0 : a0.size ≤ 65536
    · by_cases h1 : a1.size ≤ 65536
      · by_cases h5 : a5.size ≤ 65536
        · exact csv_main a0 a1 a5 a2 a3 a4 a6 w hg h0 h1 h5
        · clear hg
          go_enter Tryd.func5, Tryd.ntmps5
          go_wp2_with fail
          refine (bytes8 a0 a1 a5 a2 a3 a4 a6 w w0 w1 w5).mono ?_
          rintro e w' ⟨rfl, rfl⟩
          rw [hd]
          go_wp2_with fail
          go_ret
          exact ⟨rfl, Below.refl _ _⟩
      · clear hg
        go_enter Tryd.func5, Tryd.ntmps5
        go_wp2_with fail
        refine (bytes8 a0 a1 a5 a2 a3 a4 a6 w w0 w1 w5).mono ?_
        rintro e w' ⟨rfl, rfl⟩
        rw [hd]
        go_wp2_with fail
        go_ret
        exact ⟨rfl, Below.refl _ _⟩
    · clear hg
      go_enter Tryd.func5, Tryd.ntmps5
      go_wp2_with fail
      refine (bytes8 a0 a1 a5 a2 a3 a4 a6 w w0 w1 w5).mono ?_
      rintro e w' ⟨rfl, rfl⟩
      rw [hd]
      go_wp2_with fail
      go_ret
      exact ⟨rfl, Below.refl _ _⟩
  · have hd : decide (a0.size + a1.size + a5.size ≤ 1048576) = false := by rw [decide_eq_false_iff_not]; exact hsum
    clear hg
    go_enter Tryd.func5, Tryd.ntmps5
    go_wp2_with fail
    refine (bytes8 a0 a1 a5 a2 a3 a4 a6 w w0 w1 w5).mono ?_
    rintro e w' ⟨rfl, rfl⟩
    rw [hd]
    go_wp2_with fail
    go_ret
    exact ⟨rfl, Below.refl _ _⟩

set_option maxRecDepth 100000 in
theorem lifted (os : Os) (started : os.Started) (H : Type) (enc : TypeId × Value → H) :
    ReturnsInHanded {} Tryd.checked os 5 .any (fun w args => (Rows.fnCsvErrorNamesTheLineAndSticksSpec.pre enc Tryd.prog Tryd.f5 [] false w args ∧ laidMetH Tryd.prog Rows.fnCsvErrorNamesTheLineAndSticksRow.laid w) ∧ sizedMet enc Tryd.prog Tryd.f5 (OpenSpec.ofChange Rows.fnCsvErrorNamesTheLineAndSticksSpec) false w args)
      (Rows.fnCsvErrorNamesTheLineAndSticksSpec.post enc Tryd.prog Tryd.f5 false true false false) := by
  refine returnsInHanded_of_change_and (C := Tryd.checked) (X := fun w _ => laidMetH Tryd.prog Rows.fnCsvErrorNamesTheLineAndSticksRow.laid w) (fun _ _ _ hh h => h.of_heap hh) own started (by kernel_rfl) Tryd.func5
    (ChangeSpec.witness_at (enc := enc) (C := Tryd.checked) (os := os) (X := fun w _ => laidMetH Tryd.prog Rows.fnCsvErrorNamesTheLineAndSticksRow.laid w) false (laidIn Tryd.prog os) #[.string ByteArray.empty, .string ByteArray.empty, .int .i64 0, .int .i64 0, .int .i64 0, .string ByteArray.empty, .int .i64 0] 8 rfl (by kernel_rfl) (by kernel_rfl) (by kernel_rfl) (by kernel_rfl) (by kernel_rfl) (laidIn_met os _)) ?_
  intro W base args ds gs before hval0 hW _ _ hL _
  have hval : ∀ (j : Nat) t v, Tryd.f5.params[j]? = some t → args[j]? = some v → Value.okWide Tryd.prog W .any base t v := hval0
  have hW' := hW
  obtain ⟨p, q, hA0, hV0, rfl, hfz, hnd⟩ := hW
  have hA : DataW.TrodAll enc Tryd.prog W 0 (fun _ => true) true Tryd.f5.params.toList args.toList ds p := hA0
  have hV : DataW.TrodVars enc Tryd.prog W (fun _ => true) [] gs q := hV0
  rw [Tryd.params5] at hA hval
  obtain ⟨v0, vs0, d0, ds0, p0, q0, hargs, rfl, rfl, h0, r0⟩ := trodAll_cons hA
  obtain ⟨v1, vs1, d1, ds1, p1, q1, rfl, rfl, rfl, h1, r1⟩ := trodAll_cons r0
  obtain ⟨v2, vs2, d2, ds2, p2, q2, rfl, rfl, rfl, h2, r2⟩ := trodAll_cons r1
  obtain ⟨v3, vs3, d3, ds3, p3, q3, rfl, rfl, rfl, h3, r3⟩ := trodAll_cons r2
  obtain ⟨v4, vs4, d4, ds4, p4, q4, rfl, rfl, rfl, h4, r4⟩ := trodAll_cons r3
  obtain ⟨v5, vs5, d5, ds5, p5, q5, rfl, rfl, rfl, h5, r5⟩ := trodAll_cons r4
  obtain ⟨v6, vs6, d6, ds6, p6, q6, rfl, rfl, rfl, h6, r6⟩ := trodAll_cons r5
  obtain ⟨rfl, rfl, rfl⟩ := trodAll_nil r6
  obtain rfl : args = #[v0, v1, v2, v3, v4, v5, v6] := by cases args; simp_all
  obtain ⟨a0, rfl, rfl, rfl, w0⟩ := open_string Tryd.underlying9 (hval 0 9 v0 rfl rfl) h0
  obtain ⟨a1, rfl, rfl, rfl, w1⟩ := open_string Tryd.underlying9 (hval 1 9 v1 rfl rfl) h1
  obtain ⟨a2, rfl, rfl, rfl, w2⟩ := open_int Tryd.underlying3 (hval 2 3 v2 rfl rfl) h2
  obtain ⟨a3, rfl, rfl, rfl, w3⟩ := open_int Tryd.underlying3 (hval 3 3 v3 rfl rfl) h3
  obtain ⟨a4, rfl, rfl, rfl, w4⟩ := open_int Tryd.underlying3 (hval 4 3 v4 rfl rfl) h4
  obtain ⟨a5, rfl, rfl, rfl, w5⟩ := open_string Tryd.underlying9 (hval 5 9 v5 rfl rfl) h5
  obtain ⟨a6, rfl, rfl, rfl, w6⟩ := open_int Tryd.underlying3 (hval 6 3 v6 rfl rfl) h6
  have hg := handle_of_laid hL
  obtain ⟨rfl, rfl⟩ : gs = [] ∧ q = [] := by
    cases gs with
    | nil => exact ⟨rfl, hV⟩
    | cons g r => exact absurd hV (by intro h; cases h)
  clear hA0 hval0
  simp only [List.append_nil] at hW'
  refine (walk a0 a1 a2 a3 a4 a5 a6 w0 w1 w5 W hg).mono fun e W' ⟨he, bel⟩ => ?_
  subst he
  exact ⟨_, rfl, _, _, _, [], [], [], hW', trodAll_mk1 (shut_bool Tryd.underlying4 _), (trodAll_cons_mk (shut_string Tryd.underlying9 w0) (trodAll_cons_mk (shut_string Tryd.underlying9 w1) (trodAll_cons_mk (shut_int Tryd.underlying3 w2) (trodAll_cons_mk (shut_int Tryd.underlying3 w3) (trodAll_cons_mk (shut_int Tryd.underlying3 w4) (trodAll_cons_mk (shut_string Tryd.underlying9 w5) (trodAll_cons_mk (shut_int Tryd.underlying3 w6) trodAll_mk0))))))), rfl, bel.frame _, fun h => by cases h⟩

theorem over : Rows.FnCsvErrorNamesTheLineAndSticksSaid :=
  OpenClaim.holds_of_wide 5 Tryd.f5 rfl rfl rfl rfl rfl rfl rfl ⟨rfl, rfl, rfl, rfl, rfl⟩ rfl rfl rfl rfl rfl (by kernel_rfl) Tryd.func5 (by kernel_rfl)
    (of_decide_eq_true (by kernel_rfl)) (by unfold Func.isWrapper; rw [if_neg (of_decide_eq_false (by kernel_rfl))]; exact ⟨rfl, rfl⟩)
    (fun os started H enc _ => lifted os started H enc)
#print axioms over
end Go.Proofs.Qxb6614550aDoor.fnCsvErrorNamesTheLineAndSticks
