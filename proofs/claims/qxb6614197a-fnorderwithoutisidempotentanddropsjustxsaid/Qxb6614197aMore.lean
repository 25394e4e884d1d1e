import Derived.Test.Qxb6614197aOrd
namespace Go.Proofs.Qxb6614197a
open Go.RowKit

set_option maxHeartbeats 800000 in
/-- zzRestKept at readings that are alike. -/
theorem rest13 (v1 v2 v3 u1 u2 u3 : Value) (nst ntk nop : Bool) (st tk op : List Int) (w : World) (h1 : SlIs .i32 w v1 nst st) (g1 : SlIs .i32 w u1 nst st) (h2 : SlIs .i64 w v2 ntk tk) (g2 : SlIs .i64 w u2 ntk tk) (h3 : SlIs .i64 w v3 nop op) (g3 : SlIs .i64 w u3 nop op)
    (b1 : st.length ≤ 1048576) (b2 : tk.length ≤ 1048576) (b3 : op.length ≤ 1048576) :
    Calls Try.prog 13 #[v1, v2, v3, .bool false, u1, u2, u3] w fun e w' => e = .returned (.bool true) ∧ ∃ q, w' = w.drewN q := by
  have HE1 := fun q => same14 v1 u1 nst st (w.drewN q) (h1.below (below_drewN (Below.refl _ _) q)) (g1.below (below_drewN (Below.refl _ _) q)) b1
  have HE2 := fun q => same15 v2 u2 ntk tk (w.drewN q) (h2.below (below_drewN (Below.refl _ _) q)) (g2.below (below_drewN (Below.refl _ _) q)) b2
  have HE3 := fun q => same15 v3 u3 nop op (w.drewN q) (h3.below (below_drewN (Below.refl _ _) q)) (g3.below (below_drewN (Below.refl _ _) q)) b3
  have H1 : Hid _ := HE1
  have H2 : Hid _ := HE2
  have H3 : Hid _ := HE3
  clear HE1 HE2 HE3 h1 g1 h2 g2 h3 g3
  go_enter Try.func13, Try.ntmps13
  go_wp2_with fail
  refine (H1.out 0).mono ?_
  rintro e w' ⟨rfl, q, rfl⟩
  go_wp2_with fail
  refine (H2.out _).mono ?_
  rintro e w' ⟨rfl, q2, rfl⟩
  go_wp2_with fail
  refine (H3.out _).mono ?_
  rintro e w' ⟨rfl, q3, rfl⟩
  go_wp2_with fail
  go_ret
  exact ⟨rfl, _, rfl⟩

set_option maxHeartbeats 1600000 in
theorem bytes16 (a0 a1 a2 a3 : Option Addr) (n0 c0 n1 c1 n2 c2 n3 c3 : Nat) (v4 : Bool) (v5 : Int) (w : World) (b0 : n0 ≤ 9223372036854775807) (b1 : n1 ≤ 9223372036854775807) (b2 : n2 ≤ 9223372036854775807) (b3 : n3 ≤ 9223372036854775807) :
    Calls Try.prog 16 #[.slice a0 n0 c0, .slice a1 n1 c1, .slice a2 n2 c2, .slice a3 n3 c3, .bool v4, .int .i64 v5] w fun e w' => e = .returned (.bool (decide (n0 + n1 + n2 + n3 ≤ 1048576))) ∧ w' = w := by
  go_enter Try.func16, Try.ntmps16
  go_wp2
  all_goals (go_ret; refine ⟨congrArg (fun b => Ending.returned (Value.bool b)) ?_, rfl⟩; first | (symm; rw [decide_eq_true_eq]; omega) | (symm; rw [decide_eq_false_iff_not]; omega))

set_option maxHeartbeats 1600000 in
theorem bytes5 (a0 a1 a2 a3 : Option Addr) (n0 c0 n1 c1 n2 c2 n3 c3 : Nat) (v4 : Bool) (v5 v6 : Int) (w : World) (b0 : n0 ≤ 9223372036854775807) (b1 : n1 ≤ 9223372036854775807) (b2 : n2 ≤ 9223372036854775807) (b3 : n3 ≤ 9223372036854775807) :
    Calls Try.prog 5 #[.slice a0 n0 c0, .slice a1 n1 c1, .slice a2 n2 c2, .slice a3 n3 c3, .bool v4, .int .i64 v5, .int .i64 v6] w fun e w' => e = .returned (.bool (decide (n0 + n1 + n2 + n3 ≤ 1048576))) ∧ w' = w := by
  go_enter Try.func5, Try.ntmps5
  go_wp2
  all_goals (go_ret; refine ⟨congrArg (fun b => Ending.returned (Value.bool b)) ?_, rfl⟩; first | (symm; rw [decide_eq_true_eq]; omega) | (symm; rw [decide_eq_false_iff_not]; omega))

end Go.Proofs.Qxb6614197a
