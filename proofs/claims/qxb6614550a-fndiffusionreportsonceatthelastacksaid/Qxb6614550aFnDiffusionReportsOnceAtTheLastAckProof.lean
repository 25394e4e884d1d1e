/-
  The proof of 'Rows.FnDiffusionReportsOnceAtTheLastAckSaid'. The frame after the kit's shell for a law over slices, the slice of bools opened by 'open_bools'.
-/
import Derived.Test.Qxb6614550aRows
import Derived.Test.Qxb6614550aRep
import Derived.WalkKit
import Derived.ProofKit
import Derived.OpenShut
import Derived.ShutString
import Derived.ChangeOld
import Derived.Below
import Derived.Deep.Grids
namespace Go.Proofs.Qxb6614550a.fnDiffusionReportsOnceAtTheLastAck
open Go.ChangeShapes Go.WideShapes Go.ChangeAt Go.RowKit
open Go.ChangeMaps (open_string shut_string)
set_option linter.unusedVariables false

theorem own : ownKnob Try.prog.godebug = none := by kernel_rfl
theorem laidOut : laidOutB Try.prog = true := by kernel_rfl

/-- A slice of bools that came in: nil, or a row of 'cap' cells. -/
def IsB (w : World) (a : Option Addr) (len cap : Nat) : Prop :=
  (a = none ∧ len = 0 ∧ cap = 0) ∨ ∃ (x : Addr) (B : Nat → Bool), a = some x ∧ len ≤ cap ∧ cap ≤ maxLen ∧ ∀ i, i < cap → w.cell? (x.add i) = some (.bool (B i))

theorem at_bools {w : World} {x : Addr} {B : Nat → Bool} {n : Nat} (h : ∀ i, i < n → w.cell? (x.add i) = some (.bool (B i))) (hp : 0 < n) :
    ∃ b off, x = ⟨b, off, none⟩ ∧ b < w.heap.size ∧ ∀ j, j < n → w.cell? ⟨b, off + j, none⟩ = some (.bool (B j)) := by
  obtain ⟨b, off, spot⟩ := x
  have hspot : spot = none := by simpa [Addr.add] using World.cell?_spot (h 0 hp)
  subst hspot
  have hc : ∀ j, j < n → w.cell? ⟨b, off + j, none⟩ = some (.bool (B j)) := fun j hj => by rw [← Go.WideShapes.add_plain]; exact h j hj
  refine ⟨b, off, rfl, ?_, hc⟩
  have := hc 0 hp
  unfold World.cell? at this
  cases hh : w.heap[b]? with
  | none => rw [show w.heap[(⟨b, off + 0, none⟩ : Addr).block]? = none from hh] at this; simp at this
  | some o => exact (Array.getElem?_eq_some_iff.1 hh).1

set_option maxHeartbeats 2000000 in
set_option maxRecDepth 100000 in
theorem walk (a0 : Bool) (a1 : ByteArray) (a2 : Option Addr) (len2 cap2 : Nat) (w1 : a1.size ≤ maxLen) (w : World) (w2 : IsB w a2 len2 cap2) :
    Calls Try.prog 3 #[.bool a0, .string a1, .slice a2 len2 cap2] w fun e w' => e = .returned (.bool true) ∧ Below w.heap.size w w' := by
  unfold maxLen at w1
  have hl : len2 ≤ 9223372036854775807 := by
    rcases w2 with ⟨_, rfl, _⟩ | ⟨x, B, _, h1, h2, _⟩
    · omega
    · unfold maxLen at h2; omega
  by_cases hsum : a1.size + len2 ≤ 1048576
  · have hd : decide (a1.size + len2 ≤ 1048576) = true := by rw [decide_eq_true_eq]; exact hsum
    by_cases hs : a1.size ≤ 65536
    · by_cases hn : len2 ≤ 65536
      · by_cases hz : len2 = 0
        · subst hz
          clear w2
          go_enter Try.func3, Try.ntmps3
          go_wp2_with fail
          refine (bytes6 a0 a1 a2 0 cap2 w w1 (by omega)).mono ?_
          rintro e w' ⟨rfl, rfl⟩
          rw [hd]
          go_wp2_with fail
          go_ret
          exact ⟨rfl, Below.refl _ _⟩
        · rcases w2 with ⟨_, h, _⟩ | ⟨x, B, rfl, h1, _, hc⟩
          · exact absurd h hz
          · obtain ⟨b, off, rfl, hb, hc2⟩ := at_bools hc (by omega)
            exact rep_main a0 a1 B b off cap2 len2 w hs hn (by omega) hb (fun j hj => hc2 j (by omega))
      · clear w2
        go_enter Try.func3, Try.ntmps3
        go_wp2_with fail
        refine (bytes6 a0 a1 a2 len2 cap2 w w1 hl).mono ?_
        rintro e w' ⟨rfl, rfl⟩
        rw [hd]
        go_wp2_with fail
        go_ret
        exact ⟨rfl, Below.refl _ _⟩
    · clear w2
      go_enter Try.func3, Try.ntmps3
      go_wp2_with fail
      refine (bytes6 a0 a1 a2 len2 cap2 w w1 hl).mono ?_
      rintro e w' ⟨rfl, rfl⟩
      rw [hd]
      go_wp2_with fail
      go_ret
      exact ⟨rfl, Below.refl _ _⟩
  · have hd : decide (a1.size + len2 ≤ 1048576) = false := by rw [decide_eq_false_iff_not]; exact hsum
    clear w2
    go_enter Try.func3, Try.ntmps3
    go_wp2_with fail
    refine (bytes6 a0 a1 a2 len2 cap2 w w1 hl).mono ?_
    rintro e w' ⟨rfl, rfl⟩
    rw [hd]
    go_wp2_with fail
    go_ret
    exact ⟨rfl, Below.refl _ _⟩

/-! ### THE ROW's STEP -/
set_option maxRecDepth 100000 in
theorem lifted (os : Os) (started : os.Started) (H : Type) (enc : TypeId × Value → H) :
    ReturnsInHanded {} Try.checked os 3 .any (Rows.fnDiffusionReportsOnceAtTheLastAckSpec.pre6 enc Try.prog Try.f3 Rows.fnDiffusionReportsOnceAtTheLastAckRow.domain false) (Rows.fnDiffusionReportsOnceAtTheLastAckSpec.post enc Try.prog Try.f3 false true false false) := by
  refine returnsInHanded_of_change (C := Try.checked) own started (by kernel_rfl) Try.func3
    (ChangeSpec.witness6 (enc := enc) (C := Try.checked) false ⟨#[], #[.bool false, .string ByteArray.empty, .slice none 0 0], []⟩ 8 (by kernel_rfl) (by kernel_rfl) (by kernel_rfl) (by kernel_rfl)) ?_
  intro W base args ds gs before hval0 hW hcnd _
  have hval : ∀ (j : Nat) t v, Try.f3.params[j]? = some t → args[j]? = some v → Value.okWide Try.prog W .any base t v := hval0
  have hW' := hW
  obtain ⟨p, q, hA0, hV, rfl, hfz, hnd⟩ := hW
  have hA : DataW.TrodAll enc Try.prog W 0 (fun _ => true) true Try.f3.params.toList args.toList ds p := hA0
  rw [Try.params3] at hA hval
  obtain ⟨v0, vs0, d0, ds0, p0, q0, hargs, rfl, rfl, h0, r0⟩ := trodAll_cons hA
  obtain ⟨v1, vs1, d1, ds1, p1, q1, rfl, rfl, rfl, h1, r1⟩ := trodAll_cons r0
  obtain ⟨v2, vs2, d2, ds2, p2, q2, rfl, rfl, rfl, h2, r2⟩ := trodAll_cons r1
  obtain ⟨rfl, rfl, rfl⟩ := trodAll_nil r2
  obtain rfl : args = #[v0, v1, v2] := by cases args; simp_all
  obtain ⟨rfl, rfl⟩ := trodVars_none hV
  obtain ⟨a0, rfl, rfl, rfl⟩ := open_bool Try.underlying4 (hval 0 4 v0 rfl rfl) h0
  obtain ⟨a1, rfl, rfl, rfl, w1⟩ := open_string Try.underlying9 (hval 1 9 v1 rfl rfl) h1
  obtain ⟨a2, len2, cap2, rfl⟩ := okWide_slice Try.underlying22 (hval 2 22 v2 rfl rfl)
  have k2 := h2
  have lt2 : ∀ x ∈ p2, x.block < W.heap.size := by obtain ⟨m, hm⟩ := k2; exact DataW.trod_lt m _ _ _ hm
  have w2 : IsB W a2 len2 cap2 := by
    obtain ⟨fuel, hf⟩ := h2
    rcases Go.Deep.open_bools Try.underlying22 Try.underlying4 (by kernel_rfl) hf with ⟨hcs, _⟩ | ⟨x, l, c, B, hcs, _, hl, hm, _, hcell⟩
    · simp [Value.cells] at hcs
      obtain ⟨rfl, rfl, rfl⟩ := hcs
      exact .inl ⟨rfl, rfl, rfl⟩
    · simp [Value.cells] at hcs
      obtain ⟨rfl, rfl, rfl⟩ := hcs
      exact .inr ⟨x, B, rfl, hl, hm, hcell⟩
  clear hA0 hval0
  refine (walk a0 a1 a2 len2 cap2 w1 W w2).mono fun e W' ⟨he, bel⟩ => ?_
  subst he
  exact ⟨_, rfl, _, _, _, [], _, [], hW', trodAll_mk1 (shut_bool Try.underlying4 _), (trodAll_cons_mk (shut_bool Try.underlying4 _) (trodAll_cons_mk (shut_string Try.underlying9 w1) (trodAll_cons_mk (Below.trod laidOut (by kernel_rfl) (of_decide_eq_true (by kernel_rfl)) k2 bel lt2) trodAll_mk0))), rfl, bel.frame _, fun h => by cases h⟩

theorem over : Rows.fnDiffusionReportsOnceAtTheLastAckRow.holds Try.pinned (OpenSpec.ofChange Rows.fnDiffusionReportsOnceAtTheLastAckSpec) :=
  OpenClaim.holds_of_wide 3 Try.f3 rfl rfl rfl rfl rfl rfl rfl ⟨rfl, rfl, rfl, rfl, rfl⟩ rfl rfl rfl rfl rfl (by kernel_rfl) Try.func3 (by kernel_rfl)
    (of_decide_eq_true (by kernel_rfl)) (by unfold Func.isWrapper; first | (rw [if_pos (by decide +kernel)]; kernel_rfl) | (rw [if_neg (by decide +kernel)]; exact ⟨rfl, rfl⟩))
    (fun os started H enc _ => lifted os started H enc)

/-- The statement. -/
theorem proved : Rows.FnDiffusionReportsOnceAtTheLastAckSaid := over
#print axioms proved
end Go.Proofs.Qxb6614550a.fnDiffusionReportsOnceAtTheLastAck
