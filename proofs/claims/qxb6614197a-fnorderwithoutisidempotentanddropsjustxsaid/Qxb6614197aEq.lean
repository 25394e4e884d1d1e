import Derived.Test.Qxb6614197aBase
namespace Go.Proofs.Qxb6614197a
open Go.RowKit

theorem SlIs.form {k : IntKind} {w : World} {v : Value} {nl : Bool} {zs : List Int} (h : SlIs k w v nl zs) : ∃ a n c, v = .slice a n c ∧ a.isNone = nl := by
  rcases h with ⟨rfl, a, cap, rfl, rfl⟩ | ⟨hz, rfl, b, off, cap, rfl, hb, hc⟩
  · exact ⟨_, _, _, rfl, rfl⟩
  · exact ⟨_, _, _, rfl, rfl⟩

set_option maxHeartbeats 800000 in
theorem eq11_row (b1 off1 cap1 b2 off2 cap2 n : Nat) (zs : List Int) (w : World) (hbig : n ≤ 1048576)
    (hc1 : ∀ j, j < n → w.cell? ⟨b1, off1 + j, none⟩ = some (.int .i64 (zs.getD j 0))) (hc2 : ∀ j, j < n → w.cell? ⟨b2, off2 + j, none⟩ = some (.int .i64 (zs.getD j 0))) :
    Calls Try.prog 11 #[.slice (some ⟨b1, off1, none⟩) n cap1, .slice (some ⟨b2, off2, none⟩) n cap2] w fun e w' => e = .returned (.bool true) ∧ ∃ q, w' = w.drewN q := by
  have HC1 : Hid (∀ j, j < n → w.cell? ⟨b1, off1 + j, none⟩ = some (.int .i64 (zs.getD j 0))) := hc1
  have HC2 : Hid (∀ j, j < n → w.cell? ⟨b2, off2 + j, none⟩ = some (.int .i64 (zs.getD j 0))) := hc2
  clear hc1 hc2
  go_enter Try.func11, Try.ntmps11
  go_wp2
  go_loopw [5] (fun i wr => ∃ (k q : Nat), k ≤ n ∧ i = .int .i64 k ∧ wr = w.drewN q) (fun i _ => n - (intOf i).toNat)
  case atStart => exact ⟨0, 0, Nat.zero_le _, rfl, rfl⟩
  case round =>
    obtain ⟨k, q, hk, rfl, hwr⟩ := hrel
    subst hwr
    by_cases hlt : k < n
    · have hltz : (k : Int) < (n : Int) := by omega
      have hcell1 : w.cell? ⟨b1, off1 + k, none⟩ = some (.int .i64 (zs.getD k 0)) := HC1.out k hlt
      have hcell2 : w.cell? ⟨b2, off2 + k, none⟩ = some (.int .i64 (zs.getD k 0)) := HC2.out k hlt
      generalize zs.getD k 0 = u at hcell1 hcell2
      go_wp2
      go_quiet (fail)
      go_wp2
      go_roundw
      case rel => exact ⟨k + 1, q + nq, by omega, by go_num, by simp⟩
      case measure => simp [intOf]; omega
    · go_wp2
      go_ret
      exact ⟨rfl, q, rfl⟩

set_option maxHeartbeats 800000 in
theorem eq11_empty (a1 a2 : Option Addr) (cap1 cap2 : Nat) (w : World) :
    Calls Try.prog 11 #[.slice a1 0 cap1, .slice a2 0 cap2] w fun e w' => e = .returned (.bool true) ∧ ∃ q, w' = w.drewN q := by
  go_enter Try.func11, Try.ntmps11
  go_wp2
  refine wp_loop_rounds 1 ?_
  rw [rounds_succ]
  go_wp2
  go_ret
  exact ⟨rfl, 0, rfl⟩

/-- THE CONTRACT OF FUNCTION 11 at two slices that read alike. -/
theorem eq11 (v1 v2 : Value) (nl1 nl2 : Bool) (zs : List Int) (w : World) (h1 : SlIs .i64 w v1 nl1 zs) (h2 : SlIs .i64 w v2 nl2 zs) (hbig : zs.length ≤ 1048576) :
    Calls Try.prog 11 #[v1, v2] w fun e w' => e = .returned (.bool true) ∧ ∃ q, w' = w.drewN q := by
  rcases h1 with ⟨rfl, a, cap, rfl, rfl⟩ | ⟨hz, rfl, b, off, cap, rfl, hb, hc⟩
  · rcases h2 with ⟨_, a', cap', rfl, rfl⟩ | ⟨hz', _⟩
    · exact eq11_empty a a' cap cap' w
    · exact absurd rfl hz'
  · rcases h2 with ⟨rfl, _⟩ | ⟨hz', rfl, b', off', cap', rfl, hb', hc'⟩
    · exact absurd rfl hz
    · exact eq11_row b off cap b' off' cap' zs.length zs w hbig hc hc'

set_option maxHeartbeats 800000 in
/-- THE CONTRACT OF FUNCTION 15 at two slices that read alike and are both nil or both not. -/
theorem same15 (v1 v2 : Value) (nl : Bool) (zs : List Int) (w : World) (h1 : SlIs .i64 w v1 nl zs) (h2 : SlIs .i64 w v2 nl zs) (hbig : zs.length ≤ 1048576) :
    Calls Try.prog 15 #[v1, v2] w fun e w' => e = .returned (.bool true) ∧ ∃ q, w' = w.drewN q := by
  have HE := fun W (hW : Hid (∃ q, W = w.drewN q)) => eq11 v1 v2 nl nl zs W (by obtain ⟨q, rfl⟩ := hW.out; exact h1.below (below_drewN (Below.refl _ _) q)) (by obtain ⟨q, rfl⟩ := hW.out; exact h2.below (below_drewN (Below.refl _ _) q)) hbig
  have q23 : ∀ (w : World) (a : Option Addr) (n c n' c' : Nat), (binOp .eql 23 (.slice a n c) (.slice none n' c')).run Try.prog w = .ok (.bool a.isNone) w := fun w a n c n' c' => Lib.run_eql_slice_nil w _ _ a n c n' c' Try.underlying23
  obtain ⟨a1, n1, c1, e1, f1⟩ := h1.form
  obtain ⟨a2, n2, c2, e2, f2⟩ := h2.form
  subst e1 e2
  have hbb : (a1.isNone == a2.isNone) = true := by rw [f1, f2]; simp
  have HH : Hid _ := HE
  clear HE h1 h2 f1 f2
  go_enter Try.func15, Try.ntmps15
  go_wp2_with (go_at_call 11; refine (HH.out _ ?_).mono ?_; (first | exact ⟨0, rfl⟩ | exact ⟨_, rfl⟩); rintro e w' ⟨rfl, q, rfl⟩)
  go_ret
  exact ⟨rfl, _, rfl⟩

set_option maxHeartbeats 800000 in
theorem eq18_row (b1 off1 cap1 b2 off2 cap2 n : Nat) (zs : List Int) (w : World) (hbig : n ≤ 1048576)
    (hc1 : ∀ j, j < n → w.cell? ⟨b1, off1 + j, none⟩ = some (.int .i32 (zs.getD j 0))) (hc2 : ∀ j, j < n → w.cell? ⟨b2, off2 + j, none⟩ = some (.int .i32 (zs.getD j 0))) :
    Calls Try.prog 18 #[.slice (some ⟨b1, off1, none⟩) n cap1, .slice (some ⟨b2, off2, none⟩) n cap2] w fun e w' => e = .returned (.bool true) ∧ ∃ q, w' = w.drewN q := by
  have HC1 : Hid (∀ j, j < n → w.cell? ⟨b1, off1 + j, none⟩ = some (.int .i32 (zs.getD j 0))) := hc1
  have HC2 : Hid (∀ j, j < n → w.cell? ⟨b2, off2 + j, none⟩ = some (.int .i32 (zs.getD j 0))) := hc2
  clear hc1 hc2
  go_enter Try.func18, Try.ntmps18
  go_wp2
  go_loopw [5] (fun i wr => ∃ (k q : Nat), k ≤ n ∧ i = .int .i64 k ∧ wr = w.drewN q) (fun i _ => n - (intOf i).toNat)
  case atStart => exact ⟨0, 0, Nat.zero_le _, rfl, rfl⟩
  case round =>
    obtain ⟨k, q, hk, rfl, hwr⟩ := hrel
    subst hwr
    by_cases hlt : k < n
    · have hltz : (k : Int) < (n : Int) := by omega
      have hcell1 : w.cell? ⟨b1, off1 + k, none⟩ = some (.int .i32 (zs.getD k 0)) := HC1.out k hlt
      have hcell2 : w.cell? ⟨b2, off2 + k, none⟩ = some (.int .i32 (zs.getD k 0)) := HC2.out k hlt
      generalize zs.getD k 0 = u at hcell1 hcell2
      go_wp2
      go_quiet (fail)
      go_wp2
      go_roundw
      case rel => exact ⟨k + 1, q + nq, by omega, by go_num, by simp⟩
      case measure => simp [intOf]; omega
    · go_wp2
      go_ret
      exact ⟨rfl, q, rfl⟩

set_option maxHeartbeats 800000 in
theorem eq18_empty (a1 a2 : Option Addr) (cap1 cap2 : Nat) (w : World) :
    Calls Try.prog 18 #[.slice a1 0 cap1, .slice a2 0 cap2] w fun e w' => e = .returned (.bool true) ∧ ∃ q, w' = w.drewN q := by
  go_enter Try.func18, Try.ntmps18
  go_wp2
  refine wp_loop_rounds 1 ?_
  rw [rounds_succ]
  go_wp2
  go_ret
  exact ⟨rfl, 0, rfl⟩

/-- THE CONTRACT OF FUNCTION 18 at two slices that read alike. -/
theorem eq18 (v1 v2 : Value) (nl1 nl2 : Bool) (zs : List Int) (w : World) (h1 : SlIs .i32 w v1 nl1 zs) (h2 : SlIs .i32 w v2 nl2 zs) (hbig : zs.length ≤ 1048576) :
    Calls Try.prog 18 #[v1, v2] w fun e w' => e = .returned (.bool true) ∧ ∃ q, w' = w.drewN q := by
  rcases h1 with ⟨rfl, a, cap, rfl, rfl⟩ | ⟨hz, rfl, b, off, cap, rfl, hb, hc⟩
  · rcases h2 with ⟨_, a', cap', rfl, rfl⟩ | ⟨hz', _⟩
    · exact eq18_empty a a' cap cap' w
    · exact absurd rfl hz'
  · rcases h2 with ⟨rfl, _⟩ | ⟨hz', rfl, b', off', cap', rfl, hb', hc'⟩
    · exact absurd rfl hz
    · exact eq18_row b off cap b' off' cap' zs.length zs w hbig hc hc'

set_option maxHeartbeats 800000 in
/-- THE CONTRACT OF FUNCTION 14 at two slices that read alike and are both nil or both not. -/
theorem same14 (v1 v2 : Value) (nl : Bool) (zs : List Int) (w : World) (h1 : SlIs .i32 w v1 nl zs) (h2 : SlIs .i32 w v2 nl zs) (hbig : zs.length ≤ 1048576) :
    Calls Try.prog 14 #[v1, v2] w fun e w' => e = .returned (.bool true) ∧ ∃ q, w' = w.drewN q := by
  have HE := fun W (hW : Hid (∃ q, W = w.drewN q)) => eq18 v1 v2 nl nl zs W (by obtain ⟨q, rfl⟩ := hW.out; exact h1.below (below_drewN (Below.refl _ _) q)) (by obtain ⟨q, rfl⟩ := hW.out; exact h2.below (below_drewN (Below.refl _ _) q)) hbig
  have q22 : ∀ (w : World) (a : Option Addr) (n c n' c' : Nat), (binOp .eql 22 (.slice a n c) (.slice none n' c')).run Try.prog w = .ok (.bool a.isNone) w := fun w a n c n' c' => Lib.run_eql_slice_nil w _ _ a n c n' c' Try.underlying22
  obtain ⟨a1, n1, c1, e1, f1⟩ := h1.form
  obtain ⟨a2, n2, c2, e2, f2⟩ := h2.form
  subst e1 e2
  have hbb : (a1.isNone == a2.isNone) = true := by rw [f1, f2]; simp
  have HH : Hid _ := HE
  clear HE h1 h2 f1 f2
  go_enter Try.func14, Try.ntmps14
  go_wp2_with (go_at_call 18; refine (HH.out _ ?_).mono ?_; (first | exact ⟨0, rfl⟩ | exact ⟨_, rfl⟩); rintro e w' ⟨rfl, q, rfl⟩)
  go_ret
  exact ⟨rfl, _, rfl⟩

end Go.Proofs.Qxb6614197a
